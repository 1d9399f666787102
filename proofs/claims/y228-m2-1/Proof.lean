import JvmDerived
import JvmDerived.Pilot.@@N@@Statement
import JvmDerived.Pilot.@@N@@Code
set_option linter.unusedVariables false
set_option linter.unusedSimpArgs false
namespace Jvm.OwnRun
open Sem ClassFile Op Lib Jvm.Stand Jvm.Free Jvm.LawKit Jvm.RoadKit
/-- the run that stands at A comes to the end of this invocation, and Q holds there -/
def Run (p : Program) (e : Env) (below : List Frame) (s : State) (Q : Option Value → Heap → List Loc → Prop) (k n : Nat) (A : State) : Prop :=
  ∃ s₂ o, Steps p.tables e below A s₂ ∧ s₂.status = .running ∧ Ended s₂ below o ∧ ∃ v L, o = .returned v ∧ Q v s₂.heap L ∧ FrameEnd s o s₂ L k n
/-- the contract of a body at one heap and one row of arguments -/
def Ctr (l : Launch) (Z : State) (y : MethodName) (bytes : ByteArray) (ml : Nat) (ret : Option FieldType) (rm : Room) (as' : Array Value) (h0 : Heap) (Q : Option Value → Heap → List Loc → Prop) : Prop :=
  ∀ ws : List Jvm.Cond, MetFree l y (head1 (Jvm.Cond.code y bytes ml ret :: ws) rm) (fun a U => a = as' ∧ Z.Warmed39 U.vm ∧ U.heap = h0) (fun _ _ _ _ _ => True) (fun _ U o U' => ∃ v L, o = .returned v ∧ Q v U'.heap L ∧ FrameEnd U o U' L rm.cells rm.slots)
section Laws
variable {p : Program} {l : Launch} {e : Env} {R : Room} {s : State} {m : MethodId} {args : Array Value} {below : List Frame} {meth : Method} {c : Code} {T : State} {locs : List Loc} {cells slots : Nat} {Z : State} {a0 : Array Value} {h h' : Heap}
variable {Q Q' : Option Value → Heap → List Loc → Prop} {k n : Nat}
theorem Run.st {A B : State} (f : ∀ t, Steps p.tables e below B t → Steps p.tables e below A t) (r : Run p e below s Q k n B) : Run p e below s Q k n A := by
  obtain ⟨s₂, o, h1, r⟩ := r
  exact ⟨s₂, o, f _ h1, r⟩
theorem Ctr.of {y : MethodName} {bytes : ByteArray} {ml : Nat} {ret : Option FieldType} {rm : Room} {as' : Array Value} {h0 : Heap} {Ls : Array Slot} (hpl : plainFor y = true) (hef : ∀ m, entryFrame m as' ml = mkF m 0 Ls [])
    (body : ∀ (p : Program) (e : Env) (s : State) (m : MethodId) (below : List Frame) (meth : Method) (c : Code) (T : State), p.tables.exec = Jvm.exec → c.code = bytes → c.maxLocals = ml → s.vm.findClass y.cls = some m.cls → meth.name = y.name → meth.sig.returnType = ret → meth.locks = false → Z.Warmed39 s.vm → T.heap = h0 →
      Stand p l e rm s m as' below meth c T [] 0 0 → Run p e below s Q rm.cells rm.slots (T.setTop (mkF m 0 Ls []))) : Ctr l Z y bytes ml ret rm as' h0 Q := by
  intro ws
  refine MetFree.of_bodySF hpl hisR ?_
  intro p e s m args below meth c s₁ Bd hml0 hP hK
  obtain ⟨rfl, hZ, hh⟩ := hP
  have q := body p e s m below meth c s₁ Bd.exec Bd.bytes hml0 (findClass_of_methodNamed Bd.named) (name_of_methodNamed Bd.named Bd.method).1 Bd.returns Bd.notSynchronized hZ (by rw [← hh, Bd.state]; rfl) (Stand.of_body Bd)
  rw [hef]
  exact q
theorem Run.end_ (X : Stand p l e R s m args below meth c T locs cells slots) (hlk : meth.locks = false) (eT : T.heap = h) {v : Option Value} (hv : meth.sig.returnType = none → v = none) (hc : cells ≤ k) (hn : slots ≤ n) (hQ : Q v h locs) {A : State}
    (f : ∀ fs, (∀ (f : JFrame) (acts : List Action), f.method = m → f.locked = none → f.entered = [] → (doReturn e (T.setTop f) acts v).1 = T.setFrames fs) → Steps p.tables e below A (T.setFrames fs)) : Run p e below s Q k n A := by
  obtain ⟨fs, hr, hrun, hended, hW, hsame⟩ := X.leave (v := v) hv
  exact ⟨_, _, f fs hr, hrun, hended, _, _, rfl, by rw [show (T.setFrames fs).heap = h from eT]; exact hQ, ⟨_, rfl⟩, hW, hsame.mono hc hn⟩
theorem Run.retN (X : Stand p l e R s m args below meth c T locs cells slots) (hx : p.tables.exec = Jvm.exec) (hlk : meth.locks = false) (eT : T.heap = h) {t : FieldType} (hret : meth.sig.returnType = some t) (ht : t = .boolean ∨ t = .byte ∨ t = .char ∨ t = .short) {pc : Nat} {Ls : Array Slot} {z : Int32} {rest : List Value}
    {z' : Int32} (hz : nar t z = z') (hd : decode c.code pc = .ok (.ireturn, 1)) (hc : cells ≤ k) (hn : slots ≤ n) (hQ : Q (some (.int z')) h locs) : Run p e below s Q k n (T.setTop (mkF m pc Ls (.int z :: rest))) :=
  Run.end_ X hlk eT (v := some (.int (nar t z))) (fun q => by rw [hret] at q; cases q) hc hn (hz ▸ hQ) fun fs hr => RoadKit.retN X hx hret ht hd hr
theorem Run.retI (X : Stand p l e R s m args below meth c T locs cells slots) (hx : p.tables.exec = Jvm.exec) (hlk : meth.locks = false) (eT : T.heap = h) (hret : meth.sig.returnType = some .int) {pc : Nat} {Ls : Array Slot} {z : Int32} {rest : List Value}
    (hd : decode c.code pc = .ok (.ireturn, 1)) (hc : cells ≤ k) (hn : slots ≤ n) (hQ : Q (some (.int z)) h locs) : Run p e below s Q k n (T.setTop (mkF m pc Ls (.int z :: rest))) :=
  Run.end_ X hlk eT (v := some (.int z)) (fun q => by rw [hret] at q; cases q) hc hn hQ fun fs hr => RoadKit.retOut X hx hret rfl (Or.inl ⟨rfl, Or.inl rfl, z, rfl⟩) hd hr
theorem Run.retJ (X : Stand p l e R s m args below meth c T locs cells slots) (hx : p.tables.exec = Jvm.exec) (hlk : meth.locks = false) (eT : T.heap = h) (hret : meth.sig.returnType = some .long) {pc : Nat} {Ls : Array Slot} {z : Int64} {rest : List Value}
    (hd : decode c.code pc = .ok (.lreturn, 1)) (hc : cells ≤ k) (hn : slots ≤ n) (hQ : Q (some (.long z)) h locs) : Run p e below s Q k n (T.setTop (mkF m pc Ls (.long z :: rest))) :=
  Run.end_ X hlk eT (v := some (.long z)) (fun q => by rw [hret] at q; cases q) hc hn hQ fun fs hr => RoadKit.retOut X hx hret rfl (Or.inr (Or.inl ⟨rfl, rfl, z, rfl⟩)) hd hr
theorem Run.retA (X : Stand p l e R s m args below meth c T locs cells slots) (hx : p.tables.exec = Jvm.exec) (hlk : meth.locks = false) (eT : T.heap = h) {t : FieldType} (hret : meth.sig.returnType = some t) (ht : t.isReference = true) {w : Value} (hw : w.isRef = true) (hnr : narrow t w = w) {pc : Nat} {Ls : Array Slot} {rest : List Value}
    (hd : decode c.code pc = .ok (.areturn, 1)) (hc : cells ≤ k) (hn : slots ≤ n) (hQ : Q (some w) h locs) : Run p e below s Q k n (T.setTop (mkF m pc Ls (w :: rest))) :=
  Run.end_ X hlk eT (v := some w) (fun q => by rw [hret] at q; cases q) hc hn hQ fun fs hr => RoadKit.retOut X hx hret hnr (Or.inr (Or.inr (Or.inr (Or.inr ⟨rfl, ht, hw⟩)))) hd hr
theorem Run.retV (X : Stand p l e R s m args below meth c T locs cells slots) (hx : p.tables.exec = Jvm.exec) (hlk : meth.locks = false) (eT : T.heap = h) (hret : meth.sig.returnType = none) {pc : Nat} {Ls : Array Slot}
    (hd : decode c.code pc = .ok (.return_, 1)) (hc : cells ≤ k) (hn : slots ≤ n) (hQ : Q none h locs) : Run p e below s Q k n (T.setTop (mkF m pc Ls [])) :=
  Run.end_ X hlk eT (v := none) (fun _ => rfl) hc hn hQ fun fs hr => X.returnOut hx hret hd hr
/-- a call's premises that are alike for every kind of call -/
theorem Ctr.back {y : MethodName} {bytes : ByteArray} {ml : Nat} {ret : Option FieldType} {rm : Room} {as' : Array Value} {len W : Nat} (K : Ctr l Z y bytes ml ret rm as' h Q') (hZ : Z.Warmed39 s.vm) (wc : (Jvm.Cond.code y bytes ml ret).before a0 Z = true) (wz : (Jvm.Cond.initialized y.cls).before a0 Z = true) (hf : rm.frames + 1 ≤ R.frames) (hl : W + (ml + 11) + rm.locals ≤ R.locals) :
    Back l R p e below s args y len W (fun A a => a = as' ∧ A.U.heap = h ∧ A.cells + rm.cells ≤ R.cells ∧ A.slots + rm.slots ≤ R.slots) (fun A _ v B => ∃ L, Q' v B.U.heap L ∧ B.locs = A.locs ++ L ∧ B.cells = A.cells + rm.cells ∧ B.slots = A.slots + rm.slots) := backOf (K []) hZ wc wz hf hl
theorem Run.callS (X : Stand p l e R s m args below meth c T locs cells slots) (hx : p.tables.exec = Jvm.exec) (hZ : Z.Warmed39 s.vm) (eT : T.heap = h) {own : String} {index : Nat} {y : MethodName} {bytes : ByteArray} {ml : Nat} {ret : Option FieldType} {rm : Room}
    (hown : s.vm.findClass own = some m.cls) (w1 : (Jvm.Cond.methodLink own index y).before a0 Z = true) (w2 : (Jvm.Cond.static y).before a0 Z = true) (w3 : (Jvm.Cond.initialized y.cls).before a0 Z = true) (w4 : (Jvm.Cond.code y bytes ml ret).before a0 Z = true)
    (hy : y.cls ≠ "java/lang/invoke/MethodHandle" ∧ y.cls ≠ "java/lang/invoke/VarHandle") {argsL rest : List Value} (K : Ctr l Z y bytes ml ret rm argsL.toArray h Q') {ps : List FieldType} {r : Option FieldType} (hpd : parseMethodDescriptor y.desc = some ⟨ps, r⟩) (hlen : argsL.length = ps.length)
    {pc : Nat} {Ls : Array Slot} (hsz : Ls.size = c.maxLocals) {W : Nat} (hW : (rest.map fun v => v.category).sum = W) (hf : rm.frames + 1 ≤ R.frames) (hl : W + (ml + 11) + rm.locals ≤ R.locals) (hc : cells + rm.cells ≤ R.cells) (hs : slots + rm.slots ≤ R.slots)
    (hd : decode c.code pc = .ok (.invokestatic index, 3)) {st : List Value} (hst : st = argsL.reverse ++ rest)
    (kk : ∀ (T' : State) (v : Option Value) (L : List Loc), Stand p l e R s m args below meth c T' (locs ++ L) (cells + rm.cells) (slots + rm.slots) → Q' v T'.heap L → Run p e below s Q k n (T'.setTop (mkF m (pc + 3) Ls (v.toList ++ rest)))) :
    Run p e below s Q k n (T.setTop (mkF m pc Ls st)) := by
  obtain ⟨v, _, ⟨T', L', k', n'⟩, -, X', ⟨L, hQ, l1, y1, z1⟩, st1⟩ := Jvm.LawKit.callS X hx (y := y) hown (mvT hZ w1) (mvT hZ w2) (mvT hZ w3) (mvT hZ w4) hy (K.back hZ w4 w3 hf hl) (g := mkF m pc Ls st) rfl hsz (argsL := argsL) (rest := rest) (lenOf hpd hlen) hst (by show 2 * 0 + _ ≤ _; rw [hW]; omega) hd (fun _ _ => ⟨rfl, eT, hc, hs⟩)
  dsimp only [Pt.U, Pt.locs, Pt.cells, Pt.slots] at X' l1 y1 z1 st1 hQ
  subst l1 y1 z1
  exact Run.st st1 (kk T' v L X' hQ)
theorem Run.callC (X : Stand p l e R s m args below meth c T locs cells slots) (hx : p.tables.exec = Jvm.exec) (hZ : Z.Warmed39 s.vm) (eT : T.heap = h) {own : String} {index : Nat} {y : MethodName} {bytes : ByteArray} {ml : Nat} {rm : Room}
    (hown : s.vm.findClass own = some m.cls) (hy1 : y.name = "<init>") (w1 : (Jvm.Cond.methodLink own index y).before a0 Z = true) (w2 : (Jvm.Cond.instanceMethod y).before a0 Z = true) (w3 : (Jvm.Cond.initialized y.cls).before a0 Z = true) (w4 : (Jvm.Cond.code y bytes ml none).before a0 Z = true)
    (hy : y.cls ≠ "java/lang/invoke/MethodHandle" ∧ y.cls ≠ "java/lang/invoke/VarHandle") {a : Addr} {argsL rest : List Value} (K : Ctr l Z y bytes ml none rm (.ref a :: argsL).toArray h Q') {ps : List FieldType} {r : Option FieldType} (hpd : parseMethodDescriptor y.desc = some ⟨ps, r⟩) (hlen : argsL.length = ps.length)
    {pc : Nat} {Ls : Array Slot} (hsz : Ls.size = c.maxLocals) {W : Nat} (hW : (rest.map fun v => v.category).sum = W) (hf : rm.frames + 1 ≤ R.frames) (hl : W + (ml + 11) + rm.locals ≤ R.locals) (hc : cells + rm.cells ≤ R.cells) (hs : slots + rm.slots ≤ R.slots)
    (hd : decode c.code pc = .ok (.invokespecial index, 3)) {st : List Value} (hst : st = argsL.reverse ++ .ref a :: rest)
    (kk : ∀ (T' : State) (v : Option Value) (L : List Loc), Stand p l e R s m args below meth c T' (locs ++ L) (cells + rm.cells) (slots + rm.slots) → Q' v T'.heap L → Run p e below s Q k n (T'.setTop (mkF m (pc + 3) Ls (v.toList ++ rest)))) :
    Run p e below s Q k n (T.setTop (mkF m pc Ls st)) := by
  obtain ⟨v, _, ⟨T', L', k', n'⟩, -, X', ⟨L, hQ, l1, y1, z1⟩, st1⟩ := X.specialBack hx (y := y) hy1 hown (mvT hZ w1) (mvT hZ w2) (mvT hZ w4) hy (K.back hZ w4 w3 hf hl) (g := mkF m pc Ls st) rfl hsz (Steps.refl _) (a := a) (argsL := argsL) (rest := rest) (lenOf hpd hlen) hst (by show 2 * 0 + _ ≤ _; rw [hW]; omega) hd (fun _ _ => ⟨rfl, eT, hc, hs⟩)
  dsimp only [Pt.U, Pt.locs, Pt.cells, Pt.slots] at X' l1 y1 z1 st1 hQ
  subst l1 y1 z1
  exact Run.st (fun t q => st1.trans q) (kk T' v L X' hQ)
/-- 'invokevirtual', the body that the receiver's class selects -/
theorem Run.callV (X : Stand p l e R s m args below meth c T locs cells slots) (hx : p.tables.exec = Jvm.exec) (hZ : Z.Warmed39 s.vm) (eT : T.heap = h) {own C : String} {index : Nat} {y z : MethodName} {bytes : ByteArray} {ml : Nat} {ret : Option FieldType} {rm : Room}
    (hown : s.vm.findClass own = some m.cls) (w1 : (Jvm.Cond.methodLink own index y).before a0 Z = true) (w2 : (Jvm.Cond.declares y).before a0 Z = true) (hnf : NotFace s y) (w5 : (Jvm.Cond.selects C y z).before a0 Z = true) (w6 : (Jvm.Cond.instanceMethod z).before a0 Z = true) (w3 : (Jvm.Cond.initialized z.cls).before a0 Z = true) (w4 : (Jvm.Cond.code z bytes ml ret).before a0 Z = true)
    (hy : y.cls ≠ "java/lang/invoke/MethodHandle" ∧ y.cls ≠ "java/lang/invoke/VarHandle") {a : Addr} (E : Exa Z h a C) {argsL rest : List Value} (K : Ctr l Z z bytes ml ret rm (.ref a :: argsL).toArray h Q') {ps : List FieldType} {r : Option FieldType} (hpd : parseMethodDescriptor y.desc = some ⟨ps, r⟩) (hlen : argsL.length = ps.length)
    {pc : Nat} {Ls : Array Slot} (hsz : Ls.size = c.maxLocals) {W : Nat} (hW : (rest.map fun v => v.category).sum = W) (hf : rm.frames + 1 ≤ R.frames) (hl : W + (ml + 11) + rm.locals ≤ R.locals) (hc : cells + rm.cells ≤ R.cells) (hs : slots + rm.slots ≤ R.slots)
    (hd : decode c.code pc = .ok (.invokevirtual index, 3)) {st : List Value} (hst : st = argsL.reverse ++ .ref a :: rest)
    (kk : ∀ (T' : State) (v : Option Value) (L : List Loc), Stand p l e R s m args below meth c T' (locs ++ L) (cells + rm.cells) (slots + rm.slots) → Q' v T'.heap L → Run p e below s Q k n (T'.setTop (mkF m (pc + 3) Ls (v.toList ++ rest)))) :
    Run p e below s Q k n (T.setTop (mkF m pc Ls st)) := by
  obtain ⟨cq, kq, qa, qb, qc⟩ := isOf hZ eT E
  obtain ⟨v, _, ⟨T', L', k', n'⟩, -, X', ⟨L, hQ, l1, y1, z1⟩, st1⟩ := X.virtualBack hx (y := y) (z := z) hown (mvT hZ w1) (mvT hZ w2) hnf (mvT hZ w5) (mvT hZ w6) hy (K.back hZ w4 w3 hf hl) qa qc (g := mkF m pc Ls st) rfl hsz (Steps.refl _) (argsL := argsL) (rest := rest) (lenOf hpd hlen) hst (by show 2 * 0 + _ ≤ _; rw [hW]; omega) hd (fun _ _ => ⟨rfl, eT, hc, hs⟩)
  dsimp only [Pt.U, Pt.locs, Pt.cells, Pt.slots] at X' l1 y1 z1 st1 hQ
  subst l1 y1 z1
  exact Run.st (fun t q => st1.trans q) (kk T' v L X' hQ)
theorem Run.init (X : Stand p l e R s m args below meth c T locs cells slots) (hx : p.tables.exec = Jvm.exec) (hZ : Z.Warmed39 s.vm) (eT : T.heap = h) {own : String} {idx : Nat} (hown : s.vm.findClass own = some m.cls) (w1 : (Jvm.Cond.methodLink own idx Lib.objectInit).before a0 Z = true) (w2 : (Jvm.Cond.instanceMethod Lib.objectInit).before a0 Z = true)
    (w3 : (Jvm.Cond.code Lib.objectInit ⟨#[0xb1]⟩ 1 none).before a0 Z = true) {pc : Nat} {Ls : Array Slot} (hsz : Ls.size = c.maxLocals) {a : Addr} {rest : List Value} (hd : decode c.code pc = .ok (.invokespecial idx, 3)) (hf : 1 ≤ R.frames) {W : Nat} (hW : (rest.map fun v => v.category).sum = W) (hl : W + 12 ≤ R.locals)
    (kk : ∀ (T' : State), Stand p l e R s m args below meth c T' locs cells slots → T'.heap = h → Run p e below s Q k n (T'.setTop (mkF m (pc + 3) Ls rest))) :
    Run p e below s Q k n (T.setTop (mkF m pc Ls (.ref a :: rest))) := by
  obtain ⟨T', X', e', st'⟩ := initO X hx hZ hown w1 w2 w3 eT (g := mkF m pc Ls (.ref a :: rest)) rfl hsz rfl hd hf (W := W) (by show 2 * 0 + _ ≤ _; rw [hW]; omega) hl
  exact Run.st st' (kk T' X' e')
theorem Run.irem (X : Stand p l e R s m args below meth c T locs cells slots) (hx : p.tables.exec = Jvm.exec) {pc : Nat} {Ls : Array Slot} {x y : Int32} {rest : List Value} (hd : decode c.code pc = .ok (.irem, 1)) (hy : y ≠ 0) (r : Run p e below s Q k n (T.setTop (mkF m (pc + 1) Ls (.int (x % y) :: rest)))) :
    Run p e below s Q k n (T.setTop (mkF m pc Ls (.int y :: .int x :: rest))) := Run.st (fun t q => iremM (g := mkF m pc Ls (.int y :: .int x :: rest)) X hx rfl hd rfl hy q) r
theorem Run.lrem (X : Stand p l e R s m args below meth c T locs cells slots) (hx : p.tables.exec = Jvm.exec) {pc : Nat} {Ls : Array Slot} {x y : Int64} {rest : List Value} (hd : decode c.code pc = .ok (.lrem, 1)) (hy : y ≠ 0) (r : Run p e below s Q k n (T.setTop (mkF m (pc + 1) Ls (.long (x % y) :: rest)))) :
    Run p e below s Q k n (T.setTop (mkF m pc Ls (.long y :: .long x :: rest))) := by
  rw [← lrem_mod] at r
  exact Run.st (fun t q => XS.lrem (g := mkF m pc Ls (.long y :: .long x :: rest)) X.here hx rfl hd rfl hy q) r
theorem Run.x_iloadN (X : Stand p l e R s m args below meth c T locs cells slots) (hx : p.tables.exec = Jvm.exec) {pc q : Nat} {Ls : Array Slot} {S : List Value} {j : Fin 4} {v : Int32} (hd : decode c.code pc = .ok (.iload_n j, 1)) (hl : Ls[j.val]? = some (.val (.int v))) (hq : pc + 1 = q) (r : Run p e below s Q k n (T.setTop (mkF m q Ls (.int v :: S)))) : Run p e below s Q k n (T.setTop (mkF m pc Ls (S))) := by
  subst hq; exact Run.st (fun t kt => XS.iloadN X.here hx rfl hd hl kt) r
theorem Run.x_iload (X : Stand p l e R s m args below meth c T locs cells slots) (hx : p.tables.exec = Jvm.exec) {pc q : Nat} {Ls : Array Slot} {S : List Value} {j : Nat} {v : Int32} (hd : decode c.code pc = .ok (.iload j, 2)) (hl : Ls[j]? = some (.val (.int v))) (hq : pc + 2 = q) (r : Run p e below s Q k n (T.setTop (mkF m q Ls (.int v :: S)))) : Run p e below s Q k n (T.setTop (mkF m pc Ls (S))) := by
  subst hq; exact Run.st (fun t kt => XS.iload X.here hx rfl hd hl kt) r
theorem Run.x_lloadN (X : Stand p l e R s m args below meth c T locs cells slots) (hx : p.tables.exec = Jvm.exec) {pc q : Nat} {Ls : Array Slot} {S : List Value} {j : Fin 4} {v : Int64} (hd : decode c.code pc = .ok (.lload_n j, 1)) (hl : Ls[j.val]? = some (.val (.long v))) (hq : pc + 1 = q) (r : Run p e below s Q k n (T.setTop (mkF m q Ls (.long v :: S)))) : Run p e below s Q k n (T.setTop (mkF m pc Ls (S))) := by
  subst hq; exact Run.st (fun t kt => XS.lloadN X.here hx rfl hd hl kt) r
theorem Run.x_lload (X : Stand p l e R s m args below meth c T locs cells slots) (hx : p.tables.exec = Jvm.exec) {pc q : Nat} {Ls : Array Slot} {S : List Value} {j : Nat} {v : Int64} (hd : decode c.code pc = .ok (.lload j, 2)) (hl : Ls[j]? = some (.val (.long v))) (hq : pc + 2 = q) (r : Run p e below s Q k n (T.setTop (mkF m q Ls (.long v :: S)))) : Run p e below s Q k n (T.setTop (mkF m pc Ls (S))) := by
  subst hq; exact Run.st (fun t kt => XS.lload X.here hx rfl hd hl kt) r
theorem Run.x_aloadN (X : Stand p l e R s m args below meth c T locs cells slots) (hx : p.tables.exec = Jvm.exec) {pc q : Nat} {Ls : Array Slot} {S : List Value} {j : Fin 4} {v : Value} (hd : decode c.code pc = .ok (.aload_n j, 1)) (hl : Ls[j.val]? = some (.val v)) (hv : v.isRef = true) (hq : pc + 1 = q) (r : Run p e below s Q k n (T.setTop (mkF m q Ls (v :: S)))) : Run p e below s Q k n (T.setTop (mkF m pc Ls (S))) := by
  subst hq; exact Run.st (fun t kt => XS.aloadN X.here hx rfl hd hl hv kt) r
theorem Run.x_aload (X : Stand p l e R s m args below meth c T locs cells slots) (hx : p.tables.exec = Jvm.exec) {pc q : Nat} {Ls : Array Slot} {S : List Value} {j : Nat} {v : Value} (hd : decode c.code pc = .ok (.aload j, 2)) (hl : Ls[j]? = some (.val v)) (hv : v.isRef = true) (hq : pc + 2 = q) (r : Run p e below s Q k n (T.setTop (mkF m q Ls (v :: S)))) : Run p e below s Q k n (T.setTop (mkF m pc Ls (S))) := by
  subst hq; exact Run.st (fun t kt => XS.aload X.here hx rfl hd hl hv kt) r
theorem Run.x_istoreN (X : Stand p l e R s m args below meth c T locs cells slots) (hx : p.tables.exec = Jvm.exec) {pc q : Nat} {Ls : Array Slot} {S : List Value} {j : Fin 4} {v : Int32} (L' : Array Slot) (hd : decode c.code pc = .ok (.istore_n j, 1)) (hl : storeLocals Ls j.val (.int v) = some L') (hq : pc + 1 = q) (r : Run p e below s Q k n (T.setTop (mkF m q L' (S)))) : Run p e below s Q k n (T.setTop (mkF m pc Ls (.int v :: S))) := by
  subst hq; exact Run.st (fun t kt => XS.istoreN X.here hx rfl hd rfl hl kt) r
theorem Run.x_istore (X : Stand p l e R s m args below meth c T locs cells slots) (hx : p.tables.exec = Jvm.exec) {pc q : Nat} {Ls : Array Slot} {S : List Value} {j : Nat} {v : Int32} (L' : Array Slot) (hd : decode c.code pc = .ok (.istore j, 2)) (hl : storeLocals Ls j (.int v) = some L') (hq : pc + 2 = q) (r : Run p e below s Q k n (T.setTop (mkF m q L' (S)))) : Run p e below s Q k n (T.setTop (mkF m pc Ls (.int v :: S))) := by
  subst hq; exact Run.st (fun t kt => XS.istore X.here hx rfl hd rfl hl kt) r
theorem Run.x_lstoreN (X : Stand p l e R s m args below meth c T locs cells slots) (hx : p.tables.exec = Jvm.exec) {pc q : Nat} {Ls : Array Slot} {S : List Value} {j : Fin 4} {v : Int64} (L' : Array Slot) (hd : decode c.code pc = .ok (.lstore_n j, 1)) (hl : storeLocals Ls j.val (.long v) = some L') (hq : pc + 1 = q) (r : Run p e below s Q k n (T.setTop (mkF m q L' (S)))) : Run p e below s Q k n (T.setTop (mkF m pc Ls (.long v :: S))) := by
  subst hq; exact Run.st (fun t kt => XS.lstoreN X.here hx rfl hd rfl hl kt) r
theorem Run.x_lstore (X : Stand p l e R s m args below meth c T locs cells slots) (hx : p.tables.exec = Jvm.exec) {pc q : Nat} {Ls : Array Slot} {S : List Value} {j : Nat} {v : Int64} (L' : Array Slot) (hd : decode c.code pc = .ok (.lstore j, 2)) (hl : storeLocals Ls j (.long v) = some L') (hq : pc + 2 = q) (r : Run p e below s Q k n (T.setTop (mkF m q L' (S)))) : Run p e below s Q k n (T.setTop (mkF m pc Ls (.long v :: S))) := by
  subst hq; exact Run.st (fun t kt => XS.lstore X.here hx rfl hd rfl hl kt) r
theorem Run.x_astoreN (X : Stand p l e R s m args below meth c T locs cells slots) (hx : p.tables.exec = Jvm.exec) {pc q : Nat} {Ls : Array Slot} {S : List Value} {j : Fin 4} {v : Value} (L' : Array Slot) (hd : decode c.code pc = .ok (.astore_n j, 1)) (hv : v.isRef = true) (hl : storeLocals Ls j.val v = some L') (hq : pc + 1 = q) (r : Run p e below s Q k n (T.setTop (mkF m q L' (S)))) : Run p e below s Q k n (T.setTop (mkF m pc Ls (v :: S))) := by
  subst hq; exact Run.st (fun t kt => XS.astoreN X.here hx rfl hd rfl hv hl kt) r
theorem Run.x_astore (X : Stand p l e R s m args below meth c T locs cells slots) (hx : p.tables.exec = Jvm.exec) {pc q : Nat} {Ls : Array Slot} {S : List Value} {j : Nat} {v : Value} (L' : Array Slot) (hd : decode c.code pc = .ok (.astore j, 2)) (hv : v.isRef = true) (hl : storeLocals Ls j v = some L') (hq : pc + 2 = q) (r : Run p e below s Q k n (T.setTop (mkF m q L' (S)))) : Run p e below s Q k n (T.setTop (mkF m pc Ls (v :: S))) := by
  subst hq; exact Run.st (fun t kt => XS.astore X.here hx rfl hd rfl hv hl kt) r
theorem Run.x_iconst (X : Stand p l e R s m args below meth c T locs cells slots) (hx : p.tables.exec = Jvm.exec) {pc q : Nat} {Ls : Array Slot} {S : List Value} {i : Int} {z : Int32} (hd : decode c.code pc = .ok (.iconst i, 1)) (hz : Int32.ofInt i = z) (hq : pc + 1 = q) (r : Run p e below s Q k n (T.setTop (mkF m q Ls (.int z :: S)))) : Run p e below s Q k n (T.setTop (mkF m pc Ls (S))) := by
  subst hq; subst hz; exact Run.st (fun t kt => XS.iconst X.here hx rfl hd kt) r
theorem Run.x_bipush (X : Stand p l e R s m args below meth c T locs cells slots) (hx : p.tables.exec = Jvm.exec) {pc q : Nat} {Ls : Array Slot} {S : List Value} {i : Int} {z : Int32} (hd : decode c.code pc = .ok (.bipush i, 2)) (hz : (Int8.ofInt i).toInt32 = z) (hq : pc + 2 = q) (r : Run p e below s Q k n (T.setTop (mkF m q Ls (.int z :: S)))) : Run p e below s Q k n (T.setTop (mkF m pc Ls (S))) := by
  subst hq; subst hz; exact Run.st (fun t kt => XS.bipush X.here hx rfl hd kt) r
theorem Run.x_sipush (X : Stand p l e R s m args below meth c T locs cells slots) (hx : p.tables.exec = Jvm.exec) {pc q : Nat} {Ls : Array Slot} {S : List Value} {i : Int} {z : Int32} (hd : decode c.code pc = .ok (.sipush i, 3)) (hz : (Int16.ofInt i).toInt32 = z) (hq : pc + 3 = q) (r : Run p e below s Q k n (T.setTop (mkF m q Ls (.int z :: S)))) : Run p e below s Q k n (T.setTop (mkF m pc Ls (S))) := by
  subst hq; subst hz; exact Run.st (fun t kt => XS.sipush X.here hx rfl hd kt) r
theorem Run.x_lconst (X : Stand p l e R s m args below meth c T locs cells slots) (hx : p.tables.exec = Jvm.exec) {pc q : Nat} {Ls : Array Slot} {S : List Value} {i : Fin 2} {z : Int64} (hd : decode c.code pc = .ok (.lconst i, 1)) (hz : Int64.ofNat i = z) (hq : pc + 1 = q) (r : Run p e below s Q k n (T.setTop (mkF m q Ls (.long z :: S)))) : Run p e below s Q k n (T.setTop (mkF m pc Ls (S))) := by
  subst hq; subst hz; exact Run.st (fun t kt => XS.lconst X.here hx rfl hd kt) r
theorem Run.x_null (X : Stand p l e R s m args below meth c T locs cells slots) (hx : p.tables.exec = Jvm.exec) {pc q : Nat} {Ls : Array Slot} {S : List Value}  (hd : decode c.code pc = .ok (.aconst_null, 1)) (hq : pc + 1 = q) (r : Run p e below s Q k n (T.setTop (mkF m q Ls (.null :: S)))) : Run p e below s Q k n (T.setTop (mkF m pc Ls (S))) := by
  subst hq; exact Run.st (fun t kt => XS.aconstNull X.here hx rfl hd kt) r
theorem Run.x_iadd (X : Stand p l e R s m args below meth c T locs cells slots) (hx : p.tables.exec = Jvm.exec) {pc q : Nat} {Ls : Array Slot} {S : List Value} {x y z : Int32} (hd : decode c.code pc = .ok (.iadd, 1)) (hz : x + y = z) (hq : pc + 1 = q) (r : Run p e below s Q k n (T.setTop (mkF m q Ls (.int z :: S)))) : Run p e below s Q k n (T.setTop (mkF m pc Ls (.int y :: .int x :: S))) := by
  subst hq; subst hz; exact Run.st (fun t kt => XS.iadd X.here hx rfl hd rfl kt) r
theorem Run.x_ladd (X : Stand p l e R s m args below meth c T locs cells slots) (hx : p.tables.exec = Jvm.exec) {pc q : Nat} {Ls : Array Slot} {S : List Value} {x y z : Int64} (hd : decode c.code pc = .ok (.ladd, 1)) (hz : x + y = z) (hq : pc + 1 = q) (r : Run p e below s Q k n (T.setTop (mkF m q Ls (.long z :: S)))) : Run p e below s Q k n (T.setTop (mkF m pc Ls (.long y :: .long x :: S))) := by
  subst hq; subst hz; exact Run.st (fun t kt => XS.ladd X.here hx rfl hd rfl kt) r
theorem Run.x_isub (X : Stand p l e R s m args below meth c T locs cells slots) (hx : p.tables.exec = Jvm.exec) {pc q : Nat} {Ls : Array Slot} {S : List Value} {x y z : Int32} (hd : decode c.code pc = .ok (.isub, 1)) (hz : x - y = z) (hq : pc + 1 = q) (r : Run p e below s Q k n (T.setTop (mkF m q Ls (.int z :: S)))) : Run p e below s Q k n (T.setTop (mkF m pc Ls (.int y :: .int x :: S))) := by
  subst hq; subst hz; exact Run.st (fun t kt => XS.isub X.here hx rfl hd rfl kt) r
theorem Run.x_lsub (X : Stand p l e R s m args below meth c T locs cells slots) (hx : p.tables.exec = Jvm.exec) {pc q : Nat} {Ls : Array Slot} {S : List Value} {x y z : Int64} (hd : decode c.code pc = .ok (.lsub, 1)) (hz : x - y = z) (hq : pc + 1 = q) (r : Run p e below s Q k n (T.setTop (mkF m q Ls (.long z :: S)))) : Run p e below s Q k n (T.setTop (mkF m pc Ls (.long y :: .long x :: S))) := by
  subst hq; subst hz; exact Run.st (fun t kt => XS.lsub X.here hx rfl hd rfl kt) r
theorem Run.x_imul (X : Stand p l e R s m args below meth c T locs cells slots) (hx : p.tables.exec = Jvm.exec) {pc q : Nat} {Ls : Array Slot} {S : List Value} {x y z : Int32} (hd : decode c.code pc = .ok (.imul, 1)) (hz : x * y = z) (hq : pc + 1 = q) (r : Run p e below s Q k n (T.setTop (mkF m q Ls (.int z :: S)))) : Run p e below s Q k n (T.setTop (mkF m pc Ls (.int y :: .int x :: S))) := by
  subst hq; subst hz; exact Run.st (fun t kt => XS.imul X.here hx rfl hd rfl kt) r
theorem Run.x_lmul (X : Stand p l e R s m args below meth c T locs cells slots) (hx : p.tables.exec = Jvm.exec) {pc q : Nat} {Ls : Array Slot} {S : List Value} {x y z : Int64} (hd : decode c.code pc = .ok (.lmul, 1)) (hz : x * y = z) (hq : pc + 1 = q) (r : Run p e below s Q k n (T.setTop (mkF m q Ls (.long z :: S)))) : Run p e below s Q k n (T.setTop (mkF m pc Ls (.long y :: .long x :: S))) := by
  subst hq; subst hz; exact Run.st (fun t kt => XS.lmul X.here hx rfl hd rfl kt) r
theorem Run.x_iand (X : Stand p l e R s m args below meth c T locs cells slots) (hx : p.tables.exec = Jvm.exec) {pc q : Nat} {Ls : Array Slot} {S : List Value} {x y z : Int32} (hd : decode c.code pc = .ok (.iand, 1)) (hz : x &&& y = z) (hq : pc + 1 = q) (r : Run p e below s Q k n (T.setTop (mkF m q Ls (.int z :: S)))) : Run p e below s Q k n (T.setTop (mkF m pc Ls (.int y :: .int x :: S))) := by
  subst hq; subst hz; exact Run.st (fun t kt => XS.iand X.here hx rfl hd rfl kt) r
theorem Run.x_land (X : Stand p l e R s m args below meth c T locs cells slots) (hx : p.tables.exec = Jvm.exec) {pc q : Nat} {Ls : Array Slot} {S : List Value} {x y z : Int64} (hd : decode c.code pc = .ok (.land, 1)) (hz : x &&& y = z) (hq : pc + 1 = q) (r : Run p e below s Q k n (T.setTop (mkF m q Ls (.long z :: S)))) : Run p e below s Q k n (T.setTop (mkF m pc Ls (.long y :: .long x :: S))) := by
  subst hq; subst hz; exact Run.st (fun t kt => XS.land X.here hx rfl hd rfl kt) r
theorem Run.x_ior (X : Stand p l e R s m args below meth c T locs cells slots) (hx : p.tables.exec = Jvm.exec) {pc q : Nat} {Ls : Array Slot} {S : List Value} {x y z : Int32} (hd : decode c.code pc = .ok (.ior, 1)) (hz : x ||| y = z) (hq : pc + 1 = q) (r : Run p e below s Q k n (T.setTop (mkF m q Ls (.int z :: S)))) : Run p e below s Q k n (T.setTop (mkF m pc Ls (.int y :: .int x :: S))) := by
  subst hq; subst hz; exact Run.st (fun t kt => XS.ior X.here hx rfl hd rfl kt) r
theorem Run.x_lor (X : Stand p l e R s m args below meth c T locs cells slots) (hx : p.tables.exec = Jvm.exec) {pc q : Nat} {Ls : Array Slot} {S : List Value} {x y z : Int64} (hd : decode c.code pc = .ok (.lor, 1)) (hz : x ||| y = z) (hq : pc + 1 = q) (r : Run p e below s Q k n (T.setTop (mkF m q Ls (.long z :: S)))) : Run p e below s Q k n (T.setTop (mkF m pc Ls (.long y :: .long x :: S))) := by
  subst hq; subst hz; exact Run.st (fun t kt => XS.lor X.here hx rfl hd rfl kt) r
theorem Run.x_ixor (X : Stand p l e R s m args below meth c T locs cells slots) (hx : p.tables.exec = Jvm.exec) {pc q : Nat} {Ls : Array Slot} {S : List Value} {x y z : Int32} (hd : decode c.code pc = .ok (.ixor, 1)) (hz : x ^^^ y = z) (hq : pc + 1 = q) (r : Run p e below s Q k n (T.setTop (mkF m q Ls (.int z :: S)))) : Run p e below s Q k n (T.setTop (mkF m pc Ls (.int y :: .int x :: S))) := by
  subst hq; subst hz; exact Run.st (fun t kt => XS.ixor X.here hx rfl hd rfl kt) r
theorem Run.x_lxor (X : Stand p l e R s m args below meth c T locs cells slots) (hx : p.tables.exec = Jvm.exec) {pc q : Nat} {Ls : Array Slot} {S : List Value} {x y z : Int64} (hd : decode c.code pc = .ok (.lxor, 1)) (hz : x ^^^ y = z) (hq : pc + 1 = q) (r : Run p e below s Q k n (T.setTop (mkF m q Ls (.long z :: S)))) : Run p e below s Q k n (T.setTop (mkF m pc Ls (.long y :: .long x :: S))) := by
  subst hq; subst hz; exact Run.st (fun t kt => XS.lxor X.here hx rfl hd rfl kt) r
theorem Run.x_ishl (X : Stand p l e R s m args below meth c T locs cells slots) (hx : p.tables.exec = Jvm.exec) {pc q : Nat} {Ls : Array Slot} {S : List Value} {x y z : Int32} (hd : decode c.code pc = .ok (.ishl, 1)) (hz : x <<< (y &&& 31) = z) (hq : pc + 1 = q) (r : Run p e below s Q k n (T.setTop (mkF m q Ls (.int z :: S)))) : Run p e below s Q k n (T.setTop (mkF m pc Ls (.int y :: .int x :: S))) := by
  subst hq; subst hz; exact Run.st (fun t kt => XS.ishl X.here hx rfl hd rfl kt) r
theorem Run.x_ishr (X : Stand p l e R s m args below meth c T locs cells slots) (hx : p.tables.exec = Jvm.exec) {pc q : Nat} {Ls : Array Slot} {S : List Value} {x y z : Int32} (hd : decode c.code pc = .ok (.ishr, 1)) (hz : x >>> (y &&& 31) = z) (hq : pc + 1 = q) (r : Run p e below s Q k n (T.setTop (mkF m q Ls (.int z :: S)))) : Run p e below s Q k n (T.setTop (mkF m pc Ls (.int y :: .int x :: S))) := by
  subst hq; subst hz; exact Run.st (fun t kt => XS.ishr X.here hx rfl hd rfl kt) r
theorem Run.x_iushr (X : Stand p l e R s m args below meth c T locs cells slots) (hx : p.tables.exec = Jvm.exec) {pc q : Nat} {Ls : Array Slot} {S : List Value} {x y z : Int32} (hd : decode c.code pc = .ok (.iushr, 1)) (hz : (x.toUInt32 >>> (y &&& 31).toUInt32).toInt32 = z) (hq : pc + 1 = q) (r : Run p e below s Q k n (T.setTop (mkF m q Ls (.int z :: S)))) : Run p e below s Q k n (T.setTop (mkF m pc Ls (.int y :: .int x :: S))) := by
  subst hq; subst hz; exact Run.st (fun t kt => XS.iushr X.here hx rfl hd rfl kt) r
theorem Run.x_lshl (X : Stand p l e R s m args below meth c T locs cells slots) (hx : p.tables.exec = Jvm.exec) {pc q : Nat} {Ls : Array Slot} {S : List Value} {x z : Int64} {y : Int32} (hd : decode c.code pc = .ok (.lshl, 1)) (hz : x <<< (y &&& 0x3f).toInt64 = z) (hq : pc + 1 = q) (r : Run p e below s Q k n (T.setTop (mkF m q Ls (.long z :: S)))) : Run p e below s Q k n (T.setTop (mkF m pc Ls (.int y :: .long x :: S))) := by
  subst hq; subst hz; exact Run.st (fun t kt => XS.lshl X.here hx rfl hd rfl kt) r
theorem Run.x_lshr (X : Stand p l e R s m args below meth c T locs cells slots) (hx : p.tables.exec = Jvm.exec) {pc q : Nat} {Ls : Array Slot} {S : List Value} {x z : Int64} {y : Int32} (hd : decode c.code pc = .ok (.lshr, 1)) (hz : x >>> (y &&& 0x3f).toInt64 = z) (hq : pc + 1 = q) (r : Run p e below s Q k n (T.setTop (mkF m q Ls (.long z :: S)))) : Run p e below s Q k n (T.setTop (mkF m pc Ls (.int y :: .long x :: S))) := by
  subst hq; subst hz; exact Run.st (fun t kt => XS.lshr X.here hx rfl hd rfl kt) r
theorem Run.x_lushr (X : Stand p l e R s m args below meth c T locs cells slots) (hx : p.tables.exec = Jvm.exec) {pc q : Nat} {Ls : Array Slot} {S : List Value} {x z : Int64} {y : Int32} (hd : decode c.code pc = .ok (.lushr, 1)) (hz : (x.toUInt64 >>> (y &&& 0x3f).toInt64.toUInt64).toInt64 = z) (hq : pc + 1 = q) (r : Run p e below s Q k n (T.setTop (mkF m q Ls (.long z :: S)))) : Run p e below s Q k n (T.setTop (mkF m pc Ls (.int y :: .long x :: S))) := by
  subst hq; subst hz; exact Run.st (fun t kt => XS.lushr X.here hx rfl hd rfl kt) r
theorem Run.x_ineg (X : Stand p l e R s m args below meth c T locs cells slots) (hx : p.tables.exec = Jvm.exec) {pc q : Nat} {Ls : Array Slot} {S : List Value} {x : Int32} {z : Int32} (hd : decode c.code pc = .ok (.ineg, 1)) (hz : -x = z) (hq : pc + 1 = q) (r : Run p e below s Q k n (T.setTop (mkF m q Ls (.int z :: S)))) : Run p e below s Q k n (T.setTop (mkF m pc Ls (.int x :: S))) := by
  subst hq; subst hz; exact Run.st (fun t kt => XS.ineg X.here hx rfl hd rfl kt) r
theorem Run.x_lneg (X : Stand p l e R s m args below meth c T locs cells slots) (hx : p.tables.exec = Jvm.exec) {pc q : Nat} {Ls : Array Slot} {S : List Value} {x : Int64} {z : Int64} (hd : decode c.code pc = .ok (.lneg, 1)) (hz : -x = z) (hq : pc + 1 = q) (r : Run p e below s Q k n (T.setTop (mkF m q Ls (.long z :: S)))) : Run p e below s Q k n (T.setTop (mkF m pc Ls (.long x :: S))) := by
  subst hq; subst hz; exact Run.st (fun t kt => XS.lneg X.here hx rfl hd rfl kt) r
theorem Run.x_i2l (X : Stand p l e R s m args below meth c T locs cells slots) (hx : p.tables.exec = Jvm.exec) {pc q : Nat} {Ls : Array Slot} {S : List Value} {x : Int32} {z : Int64} (hd : decode c.code pc = .ok (.i2l, 1)) (hz : x.toInt64 = z) (hq : pc + 1 = q) (r : Run p e below s Q k n (T.setTop (mkF m q Ls (.long z :: S)))) : Run p e below s Q k n (T.setTop (mkF m pc Ls (.int x :: S))) := by
  subst hq; subst hz; exact Run.st (fun t kt => XS.i2l X.here hx rfl hd rfl kt) r
theorem Run.x_l2i (X : Stand p l e R s m args below meth c T locs cells slots) (hx : p.tables.exec = Jvm.exec) {pc q : Nat} {Ls : Array Slot} {S : List Value} {x : Int64} {z : Int32} (hd : decode c.code pc = .ok (.l2i, 1)) (hz : x.toInt32 = z) (hq : pc + 1 = q) (r : Run p e below s Q k n (T.setTop (mkF m q Ls (.int z :: S)))) : Run p e below s Q k n (T.setTop (mkF m pc Ls (.long x :: S))) := by
  subst hq; subst hz; exact Run.st (fun t kt => XS.l2i X.here hx rfl hd rfl kt) r
theorem Run.x_i2b (X : Stand p l e R s m args below meth c T locs cells slots) (hx : p.tables.exec = Jvm.exec) {pc q : Nat} {Ls : Array Slot} {S : List Value} {x : Int32} {z : Int32} (hd : decode c.code pc = .ok (.i2b, 1)) (hz : x.toInt8.toInt32 = z) (hq : pc + 1 = q) (r : Run p e below s Q k n (T.setTop (mkF m q Ls (.int z :: S)))) : Run p e below s Q k n (T.setTop (mkF m pc Ls (.int x :: S))) := by
  subst hq; subst hz; exact Run.st (fun t kt => XS.i2b X.here hx rfl hd rfl kt) r
theorem Run.x_i2s (X : Stand p l e R s m args below meth c T locs cells slots) (hx : p.tables.exec = Jvm.exec) {pc q : Nat} {Ls : Array Slot} {S : List Value} {x : Int32} {z : Int32} (hd : decode c.code pc = .ok (.i2s, 1)) (hz : x.toInt16.toInt32 = z) (hq : pc + 1 = q) (r : Run p e below s Q k n (T.setTop (mkF m q Ls (.int z :: S)))) : Run p e below s Q k n (T.setTop (mkF m pc Ls (.int x :: S))) := by
  subst hq; subst hz; exact Run.st (fun t kt => XS.i2s X.here hx rfl hd rfl kt) r
theorem Run.x_i2c (X : Stand p l e R s m args below meth c T locs cells slots) (hx : p.tables.exec = Jvm.exec) {pc q : Nat} {Ls : Array Slot} {S : List Value} {x : Int32} {z : Int32} (hd : decode c.code pc = .ok (.i2c, 1)) (hz : x.toUInt32.toUInt16.toUInt32.toInt32 = z) (hq : pc + 1 = q) (r : Run p e below s Q k n (T.setTop (mkF m q Ls (.int z :: S)))) : Run p e below s Q k n (T.setTop (mkF m pc Ls (.int x :: S))) := by
  subst hq; subst hz; exact Run.st (fun t kt => XS.i2c X.here hx rfl hd rfl kt) r
theorem Run.x_lcmp (X : Stand p l e R s m args below meth c T locs cells slots) (hx : p.tables.exec = Jvm.exec) {pc q : Nat} {Ls : Array Slot} {S : List Value} {x y : Int64} (hd : decode c.code pc = .ok (.lcmp, 1)) (hq : pc + 1 = q) (r : Run p e below s Q k n (T.setTop (mkF m q Ls (.int (lcmpW x y) :: S)))) : Run p e below s Q k n (T.setTop (mkF m pc Ls (.long y :: .long x :: S))) := by
  subst hq; exact Run.st (fun t kt => XS.lcmp X.here hx rfl hd rfl kt) r
theorem Run.x_idiv (X : Stand p l e R s m args below meth c T locs cells slots) (hx : p.tables.exec = Jvm.exec) {pc q : Nat} {Ls : Array Slot} {S : List Value} {x y z : Int32} (hd : decode c.code pc = .ok (.idiv, 1)) (hy : y ≠ 0) (hz : x / y = z) (hq : pc + 1 = q) (r : Run p e below s Q k n (T.setTop (mkF m q Ls (.int z :: S)))) : Run p e below s Q k n (T.setTop (mkF m pc Ls (.int y :: .int x :: S))) := by
  subst hq; subst hz; exact Run.st (fun t kt => XS.idiv X.here hx rfl hd rfl hy kt) r
theorem Run.x_ldiv (X : Stand p l e R s m args below meth c T locs cells slots) (hx : p.tables.exec = Jvm.exec) {pc q : Nat} {Ls : Array Slot} {S : List Value} {x y z : Int64} (hd : decode c.code pc = .ok (.ldiv, 1)) (hy : y ≠ 0) (hz : x / y = z) (hq : pc + 1 = q) (r : Run p e below s Q k n (T.setTop (mkF m q Ls (.long z :: S)))) : Run p e below s Q k n (T.setTop (mkF m pc Ls (.long y :: .long x :: S))) := by
  subst hq; subst hz; exact Run.st (fun t kt => XS.ldiv X.here hx rfl hd rfl hy kt) r
theorem Run.x_irem (X : Stand p l e R s m args below meth c T locs cells slots) (hx : p.tables.exec = Jvm.exec) {pc q : Nat} {Ls : Array Slot} {S : List Value} {x y z : Int32} (hd : decode c.code pc = .ok (.irem, 1)) (hy : y ≠ 0) (hz : x % y = z) (hq : pc + 1 = q) (r : Run p e below s Q k n (T.setTop (mkF m q Ls (.int z :: S)))) : Run p e below s Q k n (T.setTop (mkF m pc Ls (.int y :: .int x :: S))) := by
  subst hq; subst hz; exact Run.st (fun t kt => iremM (g := mkF m pc Ls (.int y :: .int x :: S)) X hx rfl hd rfl hy kt) r
theorem Run.x_lrem (X : Stand p l e R s m args below meth c T locs cells slots) (hx : p.tables.exec = Jvm.exec) {pc q : Nat} {Ls : Array Slot} {S : List Value} {x y z : Int64} (hd : decode c.code pc = .ok (.lrem, 1)) (hy : y ≠ 0) (hz : x % y = z) (hq : pc + 1 = q) (r : Run p e below s Q k n (T.setTop (mkF m q Ls (.long z :: S)))) : Run p e below s Q k n (T.setTop (mkF m pc Ls (.long y :: .long x :: S))) := by
  subst hq; subst hz; rw [← lrem_mod] at r; exact Run.st (fun t kt => XS.lrem X.here hx rfl hd rfl hy kt) r
theorem Run.x_iinc (X : Stand p l e R s m args below meth c T locs cells slots) (hx : p.tables.exec = Jvm.exec) {pc q : Nat} {Ls : Array Slot} {S : List Value} {j : Nat} {i : Int} {x z : Int32} (L' : Array Slot) (hd : decode c.code pc = .ok (.iinc j i, 3)) (hl : Ls[j]? = some (.val (.int x))) (hz : x + Int32.ofInt i = z) (hl' : storeLocals Ls j (.int z) = some L') (hq : pc + 3 = q) (r : Run p e below s Q k n (T.setTop (mkF m q L' (S)))) : Run p e below s Q k n (T.setTop (mkF m pc Ls (S))) := by
  subst hq; subst hz; exact Run.st (fun t kt => XS.iinc X.here hx rfl hd hl hl' kt) r
theorem Run.x_dup (X : Stand p l e R s m args below meth c T locs cells slots) (hx : p.tables.exec = Jvm.exec) {pc q : Nat} {Ls : Array Slot} {S : List Value} {v : Value} (hd : decode c.code pc = .ok (.dup, 1)) (hc : v.category = 1) (hq : pc + 1 = q) (r : Run p e below s Q k n (T.setTop (mkF m q Ls (v :: v :: S)))) : Run p e below s Q k n (T.setTop (mkF m pc Ls (v :: S))) := by
  subst hq; exact Run.st (fun t kt => XS.dup X.here hx rfl hd rfl hc kt) r
theorem Run.x_dup_x1 (X : Stand p l e R s m args below meth c T locs cells slots) (hx : p.tables.exec = Jvm.exec) {pc q : Nat} {Ls : Array Slot} {S : List Value} {v w : Value} (hd : decode c.code pc = .ok (.dup_x1, 1)) (hc : v.category = 1) (hc' : w.category = 1) (hq : pc + 1 = q) (r : Run p e below s Q k n (T.setTop (mkF m q Ls (v :: w :: v :: S)))) : Run p e below s Q k n (T.setTop (mkF m pc Ls (v :: w :: S))) := by
  subst hq; exact Run.st (fun t kt => XS.dupX1 X.here hx rfl hd rfl hc hc' kt) r
theorem Run.x_dup2 (X : Stand p l e R s m args below meth c T locs cells slots) (hx : p.tables.exec = Jvm.exec) {pc q : Nat} {Ls : Array Slot} {S : List Value} {v w : Value} (hd : decode c.code pc = .ok (.dup2, 1)) (hc : v.category = 1) (hc' : w.category = 1) (hq : pc + 1 = q) (r : Run p e below s Q k n (T.setTop (mkF m q Ls (v :: w :: v :: w :: S)))) : Run p e below s Q k n (T.setTop (mkF m pc Ls (v :: w :: S))) := by
  subst hq; exact Run.st (fun t kt => XT.dup2 X.here hx rfl hd rfl hc hc' kt) r
theorem Run.x_pop (X : Stand p l e R s m args below meth c T locs cells slots) (hx : p.tables.exec = Jvm.exec) {pc q : Nat} {Ls : Array Slot} {S : List Value} {v : Value} (hd : decode c.code pc = .ok (.pop, 1)) (hc : v.category = 1) (hq : pc + 1 = q) (r : Run p e below s Q k n (T.setTop (mkF m q Ls (S)))) : Run p e below s Q k n (T.setTop (mkF m pc Ls (v :: S))) := by
  subst hq; exact Run.st (fun t kt => XS.pop X.here hx rfl hd rfl hc kt) r
theorem Run.x_goto (X : Stand p l e R s m args below meth c T locs cells slots) (hx : p.tables.exec = Jvm.exec) {pc q : Nat} {Ls : Array Slot} {S : List Value}  {o : Int} (hd : decode c.code pc = .ok (.goto o, 3)) (ho : 0 ≤ (pc : Int) + o) (hq : ((pc : Int) + o).toNat = q) (r : Run p e below s Q k n (T.setTop (mkF m q Ls (S)))) : Run p e below s Q k n (T.setTop (mkF m pc Ls (S))) :=
  Run.st (fun t kt => XS.goto X.here hx rfl (pc0 := pc) (pc' := q) rfl hd ho hq kt) r
theorem Run.x_ifYes (X : Stand p l e R s m args below meth c T locs cells slots) (hx : p.tables.exec = Jvm.exec) {pc q : Nat} {Ls : Array Slot} {S : List Value} {cd : ClassFile.Cond} {x : Int32} {o : Int} (hd : decode c.code pc = .ok (.ifCond cd o, 3)) (hc : ifCond.holds cd x = true) (ho : 0 ≤ (pc : Int) + o) (hq : ((pc : Int) + o).toNat = q) (r : Run p e below s Q k n (T.setTop (mkF m q Ls (S)))) : Run p e below s Q k n (T.setTop (mkF m pc Ls (.int x :: S))) :=
  Run.st (fun t kt => XS.ifYes X.here hx rfl (pc0 := pc) (pc' := q) rfl hd rfl hc ho hq kt) r
theorem Run.x_icmpYes (X : Stand p l e R s m args below meth c T locs cells slots) (hx : p.tables.exec = Jvm.exec) {pc q : Nat} {Ls : Array Slot} {S : List Value} {cd : ClassFile.Cond} {x y : Int32} {o : Int} (hd : decode c.code pc = .ok (.if_icmp cd o, 3)) (hc : if_icmp.holds cd x y = true) (ho : 0 ≤ (pc : Int) + o) (hq : ((pc : Int) + o).toNat = q) (r : Run p e below s Q k n (T.setTop (mkF m q Ls (S)))) : Run p e below s Q k n (T.setTop (mkF m pc Ls (.int y :: .int x :: S))) :=
  Run.st (fun t kt => XS.icmpYes X.here hx rfl (pc0 := pc) (pc' := q) rfl hd rfl hc ho hq kt) r
theorem Run.x_ifNo (X : Stand p l e R s m args below meth c T locs cells slots) (hx : p.tables.exec = Jvm.exec) {pc q : Nat} {Ls : Array Slot} {S : List Value} {cd : ClassFile.Cond} {x : Int32} {o : Int} (hd : decode c.code pc = .ok (.ifCond cd o, 3)) (hc : ifCond.holds cd x = false) (hq : pc + 3 = q) (r : Run p e below s Q k n (T.setTop (mkF m q Ls (S)))) : Run p e below s Q k n (T.setTop (mkF m pc Ls (.int x :: S))) := by
  subst hq; exact Run.st (fun t kt => XS.ifNo X.here hx rfl hd rfl hc kt) r
theorem Run.x_icmpNo (X : Stand p l e R s m args below meth c T locs cells slots) (hx : p.tables.exec = Jvm.exec) {pc q : Nat} {Ls : Array Slot} {S : List Value} {cd : ClassFile.Cond} {x y : Int32} {o : Int} (hd : decode c.code pc = .ok (.if_icmp cd o, 3)) (hc : if_icmp.holds cd x y = false) (hq : pc + 3 = q) (r : Run p e below s Q k n (T.setTop (mkF m q Ls (S)))) : Run p e below s Q k n (T.setTop (mkF m pc Ls (.int y :: .int x :: S))) := by
  subst hq; exact Run.st (fun t kt => XS.icmpNo X.here hx rfl hd rfl hc kt) r
/-- an array and all that it holds -/
def Ars (Z : State) (h : Heap) (a : Addr) (ty : FieldType) (vs : List Value) : Prop := ∃ c : Cell, Arr Z h a c ty ∧ c.slots.toList = vs
variable {a b : Addr} {ty : FieldType} {vs : List Value} {v : Value} {sl : Nat} {ws : List Addr}
theorem Ars.lt (A : Ars Z h a ty vs) : a < h.size := by obtain ⟨c, A, -⟩ := A; exact A.lt
theorem Ars.ext (A : Ars Z h a ty vs) (E : Ext h h') : Ars Z h' a ty vs := by obtain ⟨c, A, r⟩ := A; exact ⟨c, A.ext E, r⟩
theorem Ars.other (A : Ars Z h b ty vs) (W : Wr h h' a sl v) (q : b ≠ a) : Ars Z h' b ty vs := by obtain ⟨c, A, r⟩ := A; exact ⟨c, A.other W q, r⟩
theorem Ars.keep (A : Ars Z h a ty vs) (K : Keep h h' ws) (q : a ∉ ws) : Ars Z h' a ty vs := by obtain ⟨c, A, r⟩ := A; exact ⟨c, ⟨K.2.1 a c A.1 q, A.2⟩, r⟩
theorem Ars.same (A : Ars Z h a ty vs) (W : Wr h h' a sl v) : Ars Z h' a ty (vs.set sl v) := by
  obtain ⟨c, A, r⟩ := A
  exact ⟨_, A.same W, by subst r; simp [Cell.setSlot]⟩
theorem Ars.new {k : ClassId} {z : Int32} (A : Arr Z h a (newA k ty z) ty) : Ars Z h a ty (List.replicate z.toNatClampNeg (defaultValue ty)) := ⟨_, A, by simp [newA]⟩
theorem in_of {c : Cell} {j : Int32} {i : Nat} (e : c.slots.toList = vs) (hj : j.toInt = i) (hi : i < vs.length) : ¬ (j < 0 ∨ c.slots.size ≤ j.toNatClampNeg) ∧ j.toNatClampNeg = i := by
  have e2 : j.toNatClampNeg = i := by show j.toInt.toNat = i; rw [hj]; rfl
  have e3 : c.slots.size = vs.length := by rw [← e]; simp
  refine ⟨?_, e2⟩
  rw [e2, e3, Int32.lt_iff_toInt_lt, hj]
  have : (0 : Int32).toInt = 0 := rfl
  omega
theorem at_of {c : Cell} {j : Int32} {i : Nat} (e : c.slots.toList = vs) (hj : j.toInt = i) (hi : vs[i]? = some v) : ¬ (j < 0 ∨ c.slots.size ≤ j.toNatClampNeg) ∧ c.slots[j.toNatClampNeg]? = some v := by
  obtain ⟨q, e2⟩ := in_of e hj (List.getElem?_eq_some_iff.mp hi).1
  refine ⟨q, ?_⟩
  rw [e2, ← hi, ← e]; simp
theorem Run.newP (X : Stand p l e R s m args below meth c T locs cells slots) (hx : p.tables.exec = Jvm.exec) (hZ : Z.Warmed39 s.vm) (eT : T.heap = h) {aty : ArrayType} (w : (Jvm.Cond.arrayClass (newarray.typeOf aty)).before a0 Z = true) {pc : Nat} {Ls : Array Slot} {z : Int32} {rest : List Value} (hd : decode c.code pc = .ok (.newarray aty, 2))
    {len : Nat} (hz : ¬ z < 0) (hlen : z.toNatClampNeg = len) {cap : Nat} (hcap : len ≤ cap) (hb : cap * 8 ≤ 536870912) (hc : cells + 1 ≤ R.cells) (hl : slots + cap ≤ R.slots)
    (kk : ∀ (T' : State) (h' : Heap) (b : Addr), b = h.size → Stand p l e R s m args below meth c T' locs (cells + 1) (slots + cap) → T'.heap = h' → Ext h h' → Ars Z h' b (newarray.typeOf aty) (List.replicate len (defaultValue (newarray.typeOf aty))) → Run p e below s Q k n (T'.setTop (mkF m (pc + 2) Ls (.ref b :: rest)))) :
    Run p e below s Q k n (T.setTop (mkF m pc Ls (.int z :: rest))) := by
  obtain ⟨T', h', k', X', e', E', A', st'⟩ := RoadKit.newP X hx hZ w eT (g := mkF m pc Ls (.int z :: rest)) rfl hd rfl hz (cap := cap) (by rw [hlen]; exact hcap) hb hc hl
  have A2 := Ars.new A'
  rw [hlen] at A2
  exact Run.st st' (kk T' h' _ rfl X' e' E' A2)
theorem Run.newR (X : Stand p l e R s m args below meth c T locs cells slots) (hx : p.tables.exec = Jvm.exec) (hZ : Z.Warmed39 s.vm) (eT : T.heap = h) {own C : String} {index : Nat} (hown : s.vm.findClass own = some m.cls) (w1 : (Jvm.Cond.classLink own index C).before a0 Z = true) (w2 : (Jvm.Cond.arrayOver (.object C)).before a0 Z = true) {pc : Nat} {Ls : Array Slot} {z : Int32} {rest : List Value} (hd : decode c.code pc = .ok (.anewarray index, 3))
    {len : Nat} (hz : ¬ z < 0) (hlen : z.toNatClampNeg = len) {cap : Nat} (hcap : len ≤ cap) (hb : cap * 8 ≤ 536870912) (hc : cells + 1 ≤ R.cells) (hl : slots + cap ≤ R.slots)
    (kk : ∀ (T' : State) (h' : Heap) (b : Addr), b = h.size → Stand p l e R s m args below meth c T' locs (cells + 1) (slots + cap) → T'.heap = h' → Ext h h' → Ars Z h' b (.object C) (List.replicate len .null) → Run p e below s Q k n (T'.setTop (mkF m (pc + 3) Ls (.ref b :: rest)))) :
    Run p e below s Q k n (T.setTop (mkF m pc Ls (.int z :: rest))) := by
  obtain ⟨T', h', k', X', e', E', A', -, st'⟩ := RoadKit.newR X hx hZ hown w1 w2 eT (g := mkF m pc Ls (.int z :: rest)) rfl hd rfl hz (cap := cap) (by rw [hlen]; exact hcap) hb hc hl
  have A2 := Ars.new A'
  rw [hlen] at A2
  exact Run.st st' (kk T' h' _ rfl X' e' E' A2)
theorem Run.ldI (X : Stand p l e R s m args below meth c T locs cells slots) (hx : p.tables.exec = Jvm.exec) (hZ : Z.Warmed39 s.vm) (eT : T.heap = h) (A : Ars Z h a .int vs) {j : Int32} {i : Nat} (hj : j.toInt = i) (hi : vs[i]? = some v) {pc : Nat} {Ls : Array Slot} {rest : List Value} (hd : decode c.code pc = .ok (.iaload, 1))
    (r : Run p e below s Q k n (T.setTop (mkF m (pc + 1) Ls (v :: rest)))) : Run p e below s Q k n (T.setTop (mkF m pc Ls (.int j :: .ref a :: rest))) := by
  obtain ⟨cl, A, q⟩ := A
  obtain ⟨q1, q2⟩ := at_of q hj hi
  exact Run.st (fun t kt => X.iaload hx (j := j) (v := v) (by rw [eT]; exact A.1) (State.isArrayOf_alike hZ.alike A.2.1) A.2.2 q1 q2 (g := mkF m pc Ls (.int j :: .ref a :: rest)) rfl rfl hd _ kt) r
theorem Run.ldC (X : Stand p l e R s m args below meth c T locs cells slots) (hx : p.tables.exec = Jvm.exec) (hZ : Z.Warmed39 s.vm) (eT : T.heap = h) (A : Ars Z h a .char vs) {j : Int32} {i : Nat} (hj : j.toInt = i) (hi : vs[i]? = some v) {pc : Nat} {Ls : Array Slot} {rest : List Value} (hd : decode c.code pc = .ok (.caload, 1))
    (r : Run p e below s Q k n (T.setTop (mkF m (pc + 1) Ls (v :: rest)))) : Run p e below s Q k n (T.setTop (mkF m pc Ls (.int j :: .ref a :: rest))) := by
  obtain ⟨cl, A, q⟩ := A
  obtain ⟨q1, q2⟩ := at_of q hj hi
  exact Run.st (fun t kt => X.caload hx (j := j) (v := v) (by rw [eT]; exact A.1) (State.isArrayOf_alike hZ.alike A.2.1) A.2.2 q1 q2 (g := mkF m pc Ls (.int j :: .ref a :: rest)) rfl rfl hd _ kt) r
theorem Run.ldJ (X : Stand p l e R s m args below meth c T locs cells slots) (hx : p.tables.exec = Jvm.exec) (hZ : Z.Warmed39 s.vm) (eT : T.heap = h) (A : Ars Z h a .long vs) {j : Int32} {i : Nat} (hj : j.toInt = i) (hi : vs[i]? = some v) {pc : Nat} {Ls : Array Slot} {rest : List Value} (hd : decode c.code pc = .ok (.laload, 1))
    (r : Run p e below s Q k n (T.setTop (mkF m (pc + 1) Ls (v :: rest)))) : Run p e below s Q k n (T.setTop (mkF m pc Ls (.int j :: .ref a :: rest))) := by
  obtain ⟨cl, A, q⟩ := A
  obtain ⟨q1, q2⟩ := at_of q hj hi
  exact Run.st (fun t kt => X.laload hx (j := j) (v := v) (by rw [eT]; exact A.1) (State.isArrayOf_alike hZ.alike A.2.1) A.2.2 q1 q2 (g := mkF m pc Ls (.int j :: .ref a :: rest)) rfl rfl hd _ kt) r
theorem Run.ldB (X : Stand p l e R s m args below meth c T locs cells slots) (hx : p.tables.exec = Jvm.exec) (hZ : Z.Warmed39 s.vm) (eT : T.heap = h) (A : Ars Z h a .byte vs) {j : Int32} {i : Nat} (hj : j.toInt = i) (hi : vs[i]? = some v) {pc : Nat} {Ls : Array Slot} {rest : List Value} (hd : decode c.code pc = .ok (.baload, 1))
    (r : Run p e below s Q k n (T.setTop (mkF m (pc + 1) Ls (v :: rest)))) : Run p e below s Q k n (T.setTop (mkF m pc Ls (.int j :: .ref a :: rest))) := by
  obtain ⟨cl, A, q⟩ := A
  obtain ⟨q1, q2⟩ := at_of q hj hi
  exact Run.st (fun t kt => X.baloadBytes hx (j := j) (v := v) (by rw [eT]; exact A.1) (State.isArrayOf_alike hZ.alike A.2.1) A.2.2 q1 q2 (g := mkF m pc Ls (.int j :: .ref a :: rest)) rfl rfl hd _ kt) r
theorem Run.ldZ (X : Stand p l e R s m args below meth c T locs cells slots) (hx : p.tables.exec = Jvm.exec) (hZ : Z.Warmed39 s.vm) (eT : T.heap = h) (A : Ars Z h a .boolean vs) {j : Int32} {i : Nat} (hj : j.toInt = i) (hi : vs[i]? = some v) {pc : Nat} {Ls : Array Slot} {rest : List Value} (hd : decode c.code pc = .ok (.baload, 1))
    (r : Run p e below s Q k n (T.setTop (mkF m (pc + 1) Ls (v :: rest)))) : Run p e below s Q k n (T.setTop (mkF m pc Ls (.int j :: .ref a :: rest))) := by
  obtain ⟨cl, A, q⟩ := A
  obtain ⟨q1, q2⟩ := at_of q hj hi
  exact Run.st (fun t kt => X.baloadBooleans hx (j := j) (v := v) (by rw [eT]; exact A.1) (State.isArrayOf_alike hZ.alike A.2.1) A.2.2 q1 q2 (g := mkF m pc Ls (.int j :: .ref a :: rest)) rfl rfl hd _ kt) r
theorem Run.ldR (X : Stand p l e R s m args below meth c T locs cells slots) (hx : p.tables.exec = Jvm.exec) (hZ : Z.Warmed39 s.vm) (eT : T.heap = h) (A : Ars Z h a ty vs) {j : Int32} {i : Nat} (hj : j.toInt = i) (hi : vs[i]? = some v) (hty : ty.isReference = true) {pc : Nat} {Ls : Array Slot} {rest : List Value} (hd : decode c.code pc = .ok (.aaload, 1))
    (r : Run p e below s Q k n (T.setTop (mkF m (pc + 1) Ls (v :: rest)))) : Run p e below s Q k n (T.setTop (mkF m pc Ls (.int j :: .ref a :: rest))) := by
  obtain ⟨cl, A, q⟩ := A
  obtain ⟨q1, q2⟩ := at_of q hj hi
  exact Run.st (fun t kt => X.aaload hx (j := j) (v := v) (by rw [eT]; exact A.1) (State.isArrayOf_alike hZ.alike A.2.1) hty A.2.2 q1 q2 (g := mkF m pc Ls (.int j :: .ref a :: rest)) rfl rfl hd _ kt) r
theorem Run.alen (X : Stand p l e R s m args below meth c T locs cells slots) (hx : p.tables.exec = Jvm.exec) (hZ : Z.Warmed39 s.vm) (eT : T.heap = h) (A : Ars Z h a ty vs) {z : Int32} (hz : vs.length.toInt32 = z) {pc : Nat} {Ls : Array Slot} {rest : List Value} (hd : decode c.code pc = .ok (.arraylength, 1))
    (r : Run p e below s Q k n (T.setTop (mkF m (pc + 1) Ls (.int z :: rest)))) : Run p e below s Q k n (T.setTop (mkF m pc Ls (.ref a :: rest))) := by
  obtain ⟨cl, A, q⟩ := A
  have e1 : cl.slots.size.toInt32 = z := by rw [← hz, ← q]; simp
  rw [← e1] at r
  exact Run.st (fun t kt => X.arraylength hx (by rw [eT]; exact A.1) (State.isArrayOf_alike hZ.alike A.2.1) (g := mkF m pc Ls (.ref a :: rest)) rfl rfl hd _ kt) r
theorem Run.stI (X : Stand p l e R s m args below meth c T locs cells slots) (hx : p.tables.exec = Jvm.exec) (hZ : Z.Warmed39 s.vm) (eT : T.heap = h) (A : Ars Z h a .int vs) {j z : Int32} {i : Nat} (hj : j.toInt = i) (hi : i < vs.length) {pc : Nat} {Ls : Array Slot} {rest : List Value} (hd : decode c.code pc = .ok (.iastore, 1))
    (kk : ∀ (T' : State) (h' : Heap), Stand p l e R s m args below meth c T' (locs ++ [⟨a, i⟩]) cells slots → T'.heap = h' → Wr h h' a i (.int z) → Ars Z h' a .int (vs.set i (.int z)) → Run p e below s Q k n (T'.setTop (mkF m (pc + 1) Ls rest))) : Run p e below s Q k n (T.setTop (mkF m pc Ls (.int z :: .int j :: .ref a :: rest))) := by
  obtain ⟨cl, A1, q⟩ := id A
  obtain ⟨q1, q2⟩ := in_of q hj hi
  obtain ⟨T', h', X', e', W', st'⟩ := RoadKit.stI X hx hZ eT A1 (j := j) (x := z) q1 (g := mkF m pc Ls (.int z :: .int j :: .ref a :: rest)) rfl rfl hd
  rw [q2] at X' W'
  exact Run.st st' (kk T' h' X' e' W' (A.same W'))
theorem Run.stJ (X : Stand p l e R s m args below meth c T locs cells slots) (hx : p.tables.exec = Jvm.exec) (hZ : Z.Warmed39 s.vm) (eT : T.heap = h) (A : Ars Z h a .long vs) {j : Int32} {z : Int64} {i : Nat} (hj : j.toInt = i) (hi : i < vs.length) {pc : Nat} {Ls : Array Slot} {rest : List Value} (hd : decode c.code pc = .ok (.lastore, 1))
    (kk : ∀ (T' : State) (h' : Heap), Stand p l e R s m args below meth c T' (locs ++ [⟨a, i⟩]) cells slots → T'.heap = h' → Wr h h' a i (.long z) → Ars Z h' a .long (vs.set i (.long z)) → Run p e below s Q k n (T'.setTop (mkF m (pc + 1) Ls rest))) : Run p e below s Q k n (T.setTop (mkF m pc Ls (.long z :: .int j :: .ref a :: rest))) := by
  obtain ⟨cl, A1, q⟩ := id A
  obtain ⟨q1, q2⟩ := in_of q hj hi
  obtain ⟨T', h', X', e', W', st'⟩ := RoadKit.stJ X hx hZ eT A1 (j := j) (x := z) q1 (g := mkF m pc Ls (.long z :: .int j :: .ref a :: rest)) rfl rfl hd
  rw [q2] at X' W'
  exact Run.st st' (kk T' h' X' e' W' (A.same W'))
theorem Run.stC (X : Stand p l e R s m args below meth c T locs cells slots) (hx : p.tables.exec = Jvm.exec) (hZ : Z.Warmed39 s.vm) (eT : T.heap = h) (A : Ars Z h a .char vs) {j z : Int32} {i : Nat} (hj : j.toInt = i) (hi : i < vs.length) {z' : Int32} (hz : nar .char z = z') {pc : Nat} {Ls : Array Slot} {rest : List Value} (hd : decode c.code pc = .ok (.castore, 1))
    (kk : ∀ (T' : State) (h' : Heap), Stand p l e R s m args below meth c T' (locs ++ [⟨a, i⟩]) cells slots → T'.heap = h' → Wr h h' a i (.int z') → Ars Z h' a .char (vs.set i (.int z')) → Run p e below s Q k n (T'.setTop (mkF m (pc + 1) Ls rest))) : Run p e below s Q k n (T.setTop (mkF m pc Ls (.int z :: .int j :: .ref a :: rest))) := by
  obtain ⟨cl, A1, q⟩ := id A
  obtain ⟨q1, q2⟩ := in_of q hj hi
  obtain ⟨T', h', X', e', W', st'⟩ := RoadKit.stC X hx hZ eT A1 (j := j) (x := z) q1 (g := mkF m pc Ls (.int z :: .int j :: .ref a :: rest)) rfl rfl hd
  rw [q2] at X' W'
  rw [hz] at W'
  exact Run.st st' (kk T' h' X' e' W' (A.same W'))
theorem Run.stB (X : Stand p l e R s m args below meth c T locs cells slots) (hx : p.tables.exec = Jvm.exec) (hZ : Z.Warmed39 s.vm) (eT : T.heap = h) (A : Ars Z h a .byte vs) {j z : Int32} {i : Nat} (hj : j.toInt = i) (hi : i < vs.length) {z' : Int32} (hz : nar .byte z = z') {pc : Nat} {Ls : Array Slot} {rest : List Value} (hd : decode c.code pc = .ok (.bastore, 1))
    (kk : ∀ (T' : State) (h' : Heap), Stand p l e R s m args below meth c T' (locs ++ [⟨a, i⟩]) cells slots → T'.heap = h' → Wr h h' a i (.int z') → Ars Z h' a .byte (vs.set i (.int z')) → Run p e below s Q k n (T'.setTop (mkF m (pc + 1) Ls rest))) : Run p e below s Q k n (T.setTop (mkF m pc Ls (.int z :: .int j :: .ref a :: rest))) := by
  obtain ⟨cl, A1, q⟩ := id A
  obtain ⟨q1, q2⟩ := in_of q hj hi
  obtain ⟨T', h', X', e', W', st'⟩ := RoadKit.stB X hx hZ eT A1 (j := j) (x := z) q1 (g := mkF m pc Ls (.int z :: .int j :: .ref a :: rest)) rfl rfl hd
  rw [q2] at X' W'
  rw [hz] at W'
  exact Run.st st' (kk T' h' X' e' W' (A.same W'))
theorem Run.stZ (X : Stand p l e R s m args below meth c T locs cells slots) (hx : p.tables.exec = Jvm.exec) (hZ : Z.Warmed39 s.vm) (eT : T.heap = h) (A : Ars Z h a .boolean vs) {j z : Int32} {i : Nat} (hj : j.toInt = i) (hi : i < vs.length) {z' : Int32} (hz : nar .boolean z = z') {pc : Nat} {Ls : Array Slot} {rest : List Value} (hd : decode c.code pc = .ok (.bastore, 1))
    (kk : ∀ (T' : State) (h' : Heap), Stand p l e R s m args below meth c T' (locs ++ [⟨a, i⟩]) cells slots → T'.heap = h' → Wr h h' a i (.int z') → Ars Z h' a .boolean (vs.set i (.int z')) → Run p e below s Q k n (T'.setTop (mkF m (pc + 1) Ls rest))) : Run p e below s Q k n (T.setTop (mkF m pc Ls (.int z :: .int j :: .ref a :: rest))) := by
  obtain ⟨cl, A1, q⟩ := id A
  obtain ⟨q1, q2⟩ := in_of q hj hi
  obtain ⟨T', h', X', e', W', st'⟩ := RoadKit.stZ X hx hZ eT A1 (j := j) (x := z) q1 (g := mkF m pc Ls (.int z :: .int j :: .ref a :: rest)) rfl rfl hd
  rw [q2] at X' W'
  rw [hz] at W'
  exact Run.st st' (kk T' h' X' e' W' (A.same W'))
end Laws
/-- what lies at a is no class's statics -/
def NSt (h : Heap) (a : Addr) : Prop := ∀ c : Cell, h[a]? = some c → c.vm.isStatics = false
theorem Exa_ns {Z : State} {h : Heap} {a : Addr} {C : String} (E : Exa Z h a C) : NSt h a := by
  obtain ⟨c, _, h1, -, -, h4, -⟩ := E
  intro c' q
  cases h1.symm.trans q
  exact h4
theorem Ars.ns {Z : State} {h : Heap} {a : Addr} {ty : FieldType} {vs : List Value} (A : Ars Z h a ty vs) : NSt h a := by
  obtain ⟨c, A, -⟩ := A
  intro c' q
  cases A.1.symm.trans q
  exact A.plain
theorem Sta_keep {Z : State} {h h' : Heap} {C n d : String} {v : Value} {ws : List Addr} (F : Sta Z h C n d v) (K : Keep h h' ws) (q : ∀ x ∈ ws, NSt h x) : Sta Z h' C n d v := by
  obtain ⟨cf, i, k, f, st, cell, h1, h2, h3, h4, h5, h6, h7⟩ := F
  refine ⟨cf, i, k, f, st, cell, h1, h2, h3, h4, K.2.1 _ _ h5 (fun hm => ?_), h6, h7⟩
  have := q st hm cell h5
  rw [h6] at this
  cases this
theorem nar_b01 {z : Int32} (hz : z = 0 ∨ z = 1) : nar .boolean z = z := by rcases hz with rfl | rfl <;> decide
theorem nar_b (x : Int32) : nar .byte x.toInt8.toInt32 = x.toInt8.toInt32 := by
  show x.toInt8.toInt32.toInt8.toInt32 = x.toInt8.toInt32
  simp
theorem nar_c (x : Int32) : nar .char x.toUInt32.toUInt16.toUInt32.toInt32 = x.toUInt32.toUInt16.toUInt32.toInt32 := by
  show x.toUInt32.toUInt16.toUInt32.toInt32.toUInt32.toUInt16.toUInt32.toInt32 = _
  have q : ∀ y : UInt16, y.toUInt32.toInt32.toUInt32.toUInt16 = y := fun y => by simp
  rw [q]
theorem ints_at (xs : List Int32) {i : Nat} (h : i < xs.length) : ∃ x, (xs.map Value.int)[i]? = some (.int x) := ⟨xs[i], by simp [h]⟩
/-- 1 or 0 -/
def own_b (c : Prop) [Decidable c] : Int32 := if c then 1 else 0
theorem own_b1 {c : Prop} [Decidable c] (h : c) : own_b c = 1 := if_pos h
theorem own_b0 {c : Prop} [Decidable c] (h : ¬ c) : own_b c = 0 := if_neg h
theorem own_b01 (c : Prop) [Decidable c] : own_b c = 0 ∨ own_b c = 1 := by unfold own_b; split <;> simp
theorem sub_w (a b : Int32) : (a.toInt64 - b.toInt64).toInt = a.toInt - b.toInt := by
  have h1 := c_lsub a.toInt64 b.toInt64
  have h2 := rng64 (a.toInt64 - b.toInt64)
  have h3 := rng32 a
  have h4 := rng32 b
  rw [c_i2l, c_i2l] at h1
  omega
theorem lt32 (a b : Int32) : a < b ↔ a.toInt < b.toInt := Int32.lt_iff_toInt_lt
theorem lt64 (a b : Int64) : a < b ↔ a.toInt < b.toInt := Int64.lt_iff_toInt_lt
theorem eq32 (a b : Int32) : a = b ↔ a.toInt = b.toInt := Int32.toInt_inj.symm
theorem eq64 (a b : Int64) : a = b ↔ a.toInt = b.toInt := Int64.toInt_inj.symm
/-- an int comes back, nothing is touched -/
def PureI (h0 : Heap) (n0 : Nat) (z : Int32) (v : Option Value) (h : Heap) (L : List Loc) : Prop := v = some (.int z) ∧ Fr n0 L ∧ h = h0
def PureJ (h0 : Heap) (n0 : Nat) (z : Int64) (v : Option Value) (h : Heap) (L : List Loc) : Prop := v = some (.long z) ∧ Fr n0 L ∧ h = h0
def PureR (h0 : Heap) (n0 : Nat) (z : Value) (v : Option Value) (h : Heap) (L : List Loc) : Prop := v = some z ∧ Fr n0 L ∧ h = h0
theorem PureI.mk {h0 : Heap} {n0 : Nat} {z z' : Int32} {L : List Loc} (e : z' = z) (N : Fr n0 L) : PureI h0 n0 z (some (.int z')) h0 L := ⟨by rw [e], N, rfl⟩
theorem PureJ.mk {h0 : Heap} {n0 : Nat} {z z' : Int64} {L : List Loc} (e : z' = z) (N : Fr n0 L) : PureJ h0 n0 z (some (.long z')) h0 L := ⟨by rw [e], N, rfl⟩
/-- the law's own end -/
def Tru (n0 : Nat) (v : Option Value) (h : Heap) (L : List Loc) : Prop := v = some (.int 1) ∧ Fr n0 L
end Jvm.OwnRun
namespace Jvm.Pilot.@@N@@
open Jvm Jvm.ClassFile Sem Op Lib Jvm.Free Jvm.Stand Jvm.LawKit Jvm.RoadKit Jvm.OwnRun Bundle Jvm.Pilot.@@N@@.Jvm.D
def own_sz (h : Int32) : Int := if h.toInt < 16 then 64 else 128
abbrev own_ok (h : Int32) : Prop := h &&& 12 = 0
def own_rd (l : Int) : Int → List Int32 → Prop
  | _, [] => True
  | a, h :: r => a = l ∨ (own_ok h ∧ a + 1 + own_sz h ≤ l ∧ own_rd l (a + 1 + own_sz h) r)
theorem own_rd0 {l a : Int} : own_rd l a [] := trivial
theorem own_rd_eq {l a : Int} {h : Int32} {r : List Int32} (e : a = l) : own_rd l a (h :: r) := Or.inl e
theorem own_rd_step {l a a' : Int} {h : Int32} {r : List Int32} (h2 : own_ok h) (h3 : a + 1 + own_sz h = a') (h4 : a' ≤ l) (q : own_rd l a' r) : own_rd l a (h :: r) := Or.inr ⟨h2, by rw [h3]; exact h4, by rw [h3]; exact q⟩
theorem own_rd_bk {l a a' : Int} {h : Int32} {r : List Int32} (h1 : ¬ a = l) (h3 : a + 1 + own_sz h = a') (q : ¬ own_rd l a' r) : ¬ own_rd l a (h :: r) := by
  rintro (e | ⟨-, -, e⟩)
  · exact h1 e
  · rw [h3] at e; exact q e
theorem own_rd_no1 {l a : Int} {h : Int32} {r : List Int32} (h1 : ¬ a = l) (h2 : ¬ own_ok h) : ¬ own_rd l a (h :: r) := by
  rintro (e | ⟨e, -⟩)
  · exact h1 e
  · exact h2 e
theorem own_rd_no2 {l a a' : Int} {h : Int32} {r : List Int32} (h1 : ¬ a = l) (h3 : a + 1 + own_sz h = a') (h4 : ¬ a' ≤ l) : ¬ own_rd l a (h :: r) := by
  rintro (e | ⟨-, e, -⟩)
  · exact h1 e
  · rw [h3] at e; exact h4 e
instance own_dec (l : Int) : (a : Int) → (r : List Int32) → Decidable (own_rd l a r)
  | _, [] => isTrue trivial
  | a, h :: r => by
    have := own_dec l (a + 1 + own_sz h) r
    unfold own_rd
    infer_instance
theorem own_b_no {c : Prop} [Decidable c] (h : own_b c = 0) : ¬ c := fun q => by rw [own_b1 q] at h; cases h
theorem own_b_yes {c : Prop} [Decidable c] (h : ¬ own_b c = 0) : c := Decidable.byContradiction fun q => h (own_b0 q)
theorem own_s16 {h : Int32} (q : h < 16) : own_sz h = 64 := by
  rw [lt32] at q
  exact if_pos q
theorem own_s16' {h : Int32} (q : ¬ h < 16) : own_sz h = 128 := by
  rw [lt32] at q
  exact if_neg q
theorem own_255 (x : Int32) : 0 ≤ (x &&& 255).toInt ∧ (x &&& 255).toInt ≤ 255 := by
  have q := c_mask x 255 8 (by decide) (by decide)
  omega
theorem own_back {h : Int32} (h0 : 0 ≤ h.toInt) (h1 : h.toInt ≤ 255) : h.toInt8.toInt32 &&& 255 = h := by
  have q := c_mask h.toInt8.toInt32 255 8 (by decide) (by decide)
  have r := c_i2b h
  rw [eq32, q]
  omega
theorem own_sh4 {h : Int32} (h0 : 0 ≤ h.toInt) (h1 : h.toInt ≤ 255) : (h >>> ((4 : Int32) &&& 31)) = 0 ↔ h < 16 := by
  have q := c_ishr h 4 4 (by decide)
  rw [eq32, q, lt32]
  have : (0 : Int32).toInt = 0 ∧ (16 : Int32).toInt = 16 := by decide
  omega
theorem own_n15 (h : Int32) : 0 ≤ (h &&& 15).toInt ∧ (h &&& 15).toInt ≤ 15 := by
  have q := c_mask h 15 4 (by decide) (by decide)
  omega
theorem own_n4 (h : Int32) : (h &&& 15) < 4 ↔ own_ok h := by
  have key : ∀ k : Nat, k < 16 → (k < 4 ↔ k &&& 12 = 0) := by decide
  have e : h.toBitVec.toNat &&& 12 = (h.toBitVec.toNat % 16) &&& 12 := by
    apply Nat.eq_of_testBit_eq
    intro i
    rw [Nat.testBit_and, Nat.testBit_and, show (16 : Nat) = 2 ^ 4 from rfl, Nat.testBit_mod_two_pow]
    by_cases h : i < 4
    · simp [h]
    · have : Nat.testBit 12 i = false := Nat.testBit_lt_two_pow (Nat.lt_of_lt_of_le (by decide : 12 < 2 ^ 4) (Nat.pow_le_pow_right (by decide) (Nat.le_of_not_lt h)))
      simp [this]
  have q := key _ (Nat.mod_lt h.toBitVec.toNat (by decide : 0 < 16))
  rw [← e] at q
  have m := c_mask h 15 4 (by decide) (by decide)
  have c : h.toInt % (2 ^ 4 : Nat) = ((h.toBitVec.toNat % 16 : Nat) : Int) := by
    have : h.toInt = h.toBitVec.toInt := rfl
    rw [this, BitVec.toInt_eq_toNat_cond]
    split <;> omega
  rw [lt32, m, c]
  have : (4 : Int32).toInt = 4 := rfl
  rw [this]
  unfold own_ok
  rw [← Int32.toBitVec_inj, Int32.toBitVec_and, ← BitVec.toNat_inj, BitVec.toNat_and]
  show _ ↔ h.toBitVec.toNat &&& 12 = 0
  rw [← q]
  omega
theorem d1_0 : decode method_2_code 0 = .ok (.iload_n 0, 1) := by decide +kernel
theorem d1_1 : decode method_2_code 1 = .ok (.bipush 16, 2) := by decide +kernel
theorem d1_3 : decode method_2_code 3 = .ok (.if_icmp .ge 8, 3) := by decide +kernel
theorem d1_6 : decode method_2_code 6 = .ok (.bipush 64, 2) := by decide +kernel
theorem d1_8 : decode method_2_code 8 = .ok (.goto 6, 3) := by decide +kernel
theorem d1_11 : decode method_2_code 11 = .ok (.sipush 128, 3) := by decide +kernel
theorem d1_14 : decode method_2_code 14 = .ok (.ireturn, 1) := by decide +kernel
theorem pn_0 : plainName "semblance/JpegCoefficientsReadQuantisationTablesPinLaw" = true := by first | (simp [plainName, overriddenIn]; done) | decide +kernel
theorem ef_c_size (m : MethodId) (p1 : Int32) : entryFrame m #[(.int p1)] 1 = mkF m 0 #[.val (.int p1)] [] := by first | (simp [entryFrame, mkF, argsToLocals, Value.category]; done) | rfl
set_option maxRecDepth 65536 in
set_option maxHeartbeats 40000000 in
theorem c_size (l : Launch) (Z : State) (a0 : Array Value) (hw : ∀ d ∈ tables_1, d.before a0 Z = true) (p1 : Int32) (h0 : Heap) (n0 : Nat) (Z0 : n0 ≤ h0.size)  :
    Ctr l Z (⟨"semblance/JpegCoefficientsReadQuantisationTablesPinLaw", "size", "(I)I"⟩ : MethodName) method_2_code 1 (some .int) ({ frames := 0, cells := 0, slots := 0, locals := 0 } : Room) #[(.int p1)] h0 (fun v h L => ∃ z : Int32, v = some (.int z) ∧ Fr n0 L ∧ h = h0 ∧ z.toInt = own_sz p1) := by
  refine Ctr.of (plainFor_of_name pn_0) (fun m => ef_c_size m p1) ?_
  intro p e s m below meth c T0 hx hby hml hown hnm hret hlk hZ e0 X0
  have N0 := Fr.nil n0
  replace hown : s.vm.findClass "semblance/JpegCoefficientsReadQuantisationTablesPinLaw" = some m.cls := hown
  replace hml : c.maxLocals = 1 := hml
  refine Run.x_iloadN (q := 1) X0 hx (hb hby d1_0) rfl rfl ?_
  refine Run.x_bipush (q := 3) X0 hx (hb hby d1_1) (z := (16 : Int32)) rfl rfl ?_
  by_cases hc3 : p1 < (16 : Int32)
  · skip
    refine Run.x_icmpNo (q := 6) X0 hx (hb hby d1_3) (tlt hc3).2.1 rfl ?_
    refine Run.x_bipush (q := 8) X0 hx (hb hby d1_6) (z := (64 : Int32)) rfl rfl ?_
    refine Run.x_goto (q := 14) X0 hx (hb hby d1_8) (by decide) (by decide) ?_
    refine Run.retI X0 hx hlk e0 hret (hb hby d1_14) (by decide) (by decide) ?_
    exact ⟨_, rfl, N0, rfl, by rw [own_s16 hc3]; rfl⟩
  · skip
    refine Run.x_icmpYes (q := 11) X0 hx (hb hby d1_3) (flt hc3).2.1 (by decide) (by decide) ?_
    refine Run.x_sipush (q := 14) X0 hx (hb hby d1_11) (z := (128 : Int32)) rfl rfl ?_
    refine Run.retI X0 hx hlk e0 hret (hb hby d1_14) (by decide) (by decide) ?_
    exact ⟨_, rfl, N0, rfl, by rw [own_s16' hc3]; rfl⟩
theorem d2_0 : decode method_3_code 0 = .ok (.iload_n 0, 1) := by decide +kernel
theorem d2_1 : decode method_3_code 1 = .ok (.bipush 12, 2) := by decide +kernel
theorem d2_3 : decode method_3_code 3 = .ok (.iand, 1) := by decide +kernel
theorem d2_4 : decode method_3_code 4 = .ok (.ifCond .ne 7, 3) := by decide +kernel
theorem d2_7 : decode method_3_code 7 = .ok (.iconst 1, 1) := by decide +kernel
theorem d2_8 : decode method_3_code 8 = .ok (.goto 4, 3) := by decide +kernel
theorem d2_11 : decode method_3_code 11 = .ok (.iconst 0, 1) := by decide +kernel
theorem d2_12 : decode method_3_code 12 = .ok (.ireturn, 1) := by decide +kernel
theorem ef_c_num (m : MethodId) (p1 : Int32) : entryFrame m #[(.int p1)] 1 = mkF m 0 #[.val (.int p1)] [] := by first | (simp [entryFrame, mkF, argsToLocals, Value.category]; done) | rfl
set_option maxRecDepth 65536 in
set_option maxHeartbeats 40000000 in
theorem c_num (l : Launch) (Z : State) (a0 : Array Value) (hw : ∀ d ∈ tables_1, d.before a0 Z = true) (p1 : Int32) (h0 : Heap) (n0 : Nat) (Z0 : n0 ≤ h0.size)  :
    Ctr l Z (⟨"semblance/JpegCoefficientsReadQuantisationTablesPinLaw", "numberOk", "(I)Z"⟩ : MethodName) method_3_code 1 (some .boolean) ({ frames := 0, cells := 0, slots := 0, locals := 0 } : Room) #[(.int p1)] h0 (PureI h0 n0 (own_b (own_ok p1))) := by
  refine Ctr.of (plainFor_of_name pn_0) (fun m => ef_c_num m p1) ?_
  intro p e s m below meth c T0 hx hby hml hown hnm hret hlk hZ e0 X0
  have N0 := Fr.nil n0
  replace hown : s.vm.findClass "semblance/JpegCoefficientsReadQuantisationTablesPinLaw" = some m.cls := hown
  replace hml : c.maxLocals = 1 := hml
  refine Run.x_iloadN (q := 1) X0 hx (hb hby d2_0) rfl rfl ?_
  refine Run.x_bipush (q := 3) X0 hx (hb hby d2_1) (z := (12 : Int32)) rfl rfl ?_
  refine Run.x_iand (q := 4) X0 hx (hb hby d2_3) rfl rfl ?_
  by_cases hc4 : (p1 &&& (12 : Int32)) = (0 : Int32)
  · skip
    refine Run.x_ifNo (q := 7) X0 hx (hb hby d2_4) ((if0 _ _).trans (teq hc4).2) rfl ?_
    refine Run.x_iconst (q := 8) X0 hx (hb hby d2_7) (z := (1 : Int32)) rfl rfl ?_
    refine Run.x_goto (q := 12) X0 hx (hb hby d2_8) (by decide) (by decide) ?_
    refine Run.retN X0 hx hlk e0 (t := .boolean) hret (by simp) (z' := (1 : Int32)) (by decide) (hb hby d2_12) (by decide) (by decide) ?_
    exact PureI.mk (by simp [own_b, own_ok, hc4]) N0
  · skip
    refine Run.x_ifYes (q := 11) X0 hx (hb hby d2_4) ((if0 _ _).trans (feq hc4).2) (by decide) (by decide) ?_
    refine Run.x_iconst (q := 12) X0 hx (hb hby d2_11) (z := (0 : Int32)) rfl rfl ?_
    refine Run.retN X0 hx hlk e0 (t := .boolean) hret (by simp) (z' := (0 : Int32)) (by decide) (hb hby d2_12) (by decide) (by decide) ?_
    exact PureI.mk (by simp [own_b, own_ok, hc4]) N0
theorem d3_0 : decode jdk_22_method_1_code 0 = .ok (.aload_n 0, 1) := by decide +kernel
theorem d3_1 : decode jdk_22_method_1_code 1 = .ok (.invokespecial 1, 3) := by decide +kernel
theorem d3_4 : decode jdk_22_method_1_code 4 = .ok (.return_, 1) := by decide +kernel
theorem pn_1 : plainName "java/util/AbstractCollection" = true := by first | (simp [plainName, overriddenIn]; done) | decide +kernel
theorem ef_c_acol (m : MethodId) (this : Addr) : entryFrame m #[(.ref this)] 1 = mkF m 0 #[.val (.ref this)] [] := by first | (simp [entryFrame, mkF, argsToLocals, Value.category]; done) | rfl
set_option maxRecDepth 65536 in
set_option maxHeartbeats 40000000 in
theorem c_acol (l : Launch) (Z : State) (a0 : Array Value) (hw : ∀ d ∈ tables_1, d.before a0 Z = true) (this : Addr) (h0 : Heap) (n0 : Nat) (Z0 : n0 ≤ h0.size)  :
    Ctr l Z (⟨"java/util/AbstractCollection", "<init>", "()V"⟩ : MethodName) jdk_22_method_1_code 1 none ({ frames := 1, cells := 0, slots := 0, locals := 12 } : Room) #[(.ref this)] h0 (fun v h L => v = none ∧ Fr n0 L ∧ h = h0) := by
  refine Ctr.of (plainFor_of_name pn_1) (fun m => ef_c_acol m this) ?_
  intro p e s m below meth c T0 hx hby hml hown hnm hret hlk hZ e0 X0
  have N0 := Fr.nil n0
  replace hown : s.vm.findClass "java/util/AbstractCollection" = some m.cls := hown
  replace hml : c.maxLocals = 1 := hml
  refine Run.x_aloadN (q := 1) X0 hx (hb hby d3_0) rfl rfl rfl ?_
  refine Run.init X0 hx hZ e0 hown (hw _ (List.mem_of_getElem? (i := 42) rfl)) (hw _ (List.mem_of_getElem? (i := 13) rfl)) (hw _ (List.mem_of_getElem? (i := 14) rfl)) (by rw [hml]; rfl) (hb hby d3_1) (by decide) (W := 0) rfl (by decide) ?_
  intro T1 X1 e1
  show Run p e below s _ _ _ (T1.setTop (mkF m 4 #[.val (.ref this)] []))
  refine Run.retV X1 hx hlk e1 hret (hb hby d3_4) (by decide) (by decide) ?_
  exact ⟨rfl, N0, rfl⟩
theorem d4_0 : decode jdk_39_method_1_code 0 = .ok (.aload_n 0, 1) := by decide +kernel
theorem d4_1 : decode jdk_39_method_1_code 1 = .ok (.invokespecial 1, 3) := by decide +kernel
theorem d4_4 : decode jdk_39_method_1_code 4 = .ok (.aload_n 0, 1) := by decide +kernel
theorem d4_5 : decode jdk_39_method_1_code 5 = .ok (.iconst 0, 1) := by decide +kernel
theorem d4_6 : decode jdk_39_method_1_code 6 = .ok (.putfield 7, 3) := by decide +kernel
theorem d4_9 : decode jdk_39_method_1_code 9 = .ok (.return_, 1) := by decide +kernel
theorem pn_2 : plainName "java/util/AbstractList" = true := by first | (simp [plainName, overriddenIn]; done) | decide +kernel
theorem pd_0 : parseMethodDescriptor "()V" = some ⟨[], none⟩ := by decide +kernel
theorem ef_c_alist (m : MethodId) (this : Addr) : entryFrame m #[(.ref this)] 1 = mkF m 0 #[.val (.ref this)] [] := by first | (simp [entryFrame, mkF, argsToLocals, Value.category]; done) | rfl
set_option maxRecDepth 65536 in
set_option maxHeartbeats 40000000 in
theorem c_alist (l : Launch) (Z : State) (a0 : Array Value) (hw : ∀ d ∈ tables_1, d.before a0 Z = true) (this : Addr) (h0 : Heap) (n0 : Nat) (Z0 : n0 ≤ h0.size) (E_this : Exa Z h0 this "java/util/ArrayList") (F_this_modCount : Fld Z h0 this "java/util/AbstractList" "modCount" "I" (.int (0 : Int32))) (F_this_elementData : Fld Z h0 this "java/util/ArrayList" "elementData" "[Ljava/lang/Object;" .null) (g_this : n0 ≤ this) :
    Ctr l Z (⟨"java/util/AbstractList", "<init>", "()V"⟩ : MethodName) jdk_39_method_1_code 1 none ({ frames := 2, cells := 0, slots := 0, locals := 24 } : Room) #[(.ref this)] h0 (fun v h L => v = none ∧ Fr n0 L ∧ Keep h0 h [this] ∧ Fld Z h this "java/util/ArrayList" "elementData" "[Ljava/lang/Object;" .null) := by
  refine Ctr.of (plainFor_of_name pn_2) (fun m => ef_c_alist m this) ?_
  intro p e s m below meth c T0 hx hby hml hown hnm hret hlk hZ e0 X0
  have N0 := Fr.nil n0
  replace hown : s.vm.findClass "java/util/AbstractList" = some m.cls := hown
  replace hml : c.maxLocals = 1 := hml
  have KP := Keep.refl h0 [this]
  refine Run.x_aloadN (q := 1) X0 hx (hb hby d4_0) rfl rfl rfl ?_
  refine Run.callC X0 hx hZ e0 (y := (⟨"java/util/AbstractCollection", "<init>", "()V"⟩ : MethodName)) hown rfl (hw _ (List.mem_of_getElem? (i := 36) rfl)) (hw _ (List.mem_of_getElem? (i := 37) rfl)) (hw _ (List.mem_of_getElem? (i := 40) rfl)) (hw _ (List.mem_of_getElem? (i := 41) rfl)) (by decide) (a := this) (argsL := []) (rest := []) (c_acol l Z a0 hw this h0 n0 Z0) pd_0 rfl (by rw [hml]; rfl) (W := 0) rfl (by decide) (by decide) (by decide) (by decide) (hb hby d4_1) rfl ?_
  intro T1 v1 L1 X1 q1
  obtain ⟨rfl, M1, e1⟩ := q1
  have N1 := Fr.app N0 M1
  show Run p e below s _ _ _ (T1.setTop (mkF m 4 #[.val (.ref this)] []))
  refine Run.x_aloadN (q := 5) X1 hx (hb hby d4_4) rfl rfl rfl ?_
  refine Run.x_iconst (q := 6) X1 hx (hb hby d4_5) (z := (0 : Int32)) rfl rfl ?_
  obtain ⟨T2, h2, X2, e2, W2, st2⟩ := putF X1 hx hZ hown (host := "") (Or.inl (hw _ (List.mem_of_getElem? (i := 43) rfl))) Via.refl e1 F_this_modCount E_this (Or.inl (hw _ (List.mem_of_getElem? (i := 44) rfl))) (hw _ (List.mem_of_getElem? (i := 25) rfl)) (ty := .int) (by decide) rfl rfl (g := (mkF m 6 #[.val (.ref this)] [(.int (0 : Int32)), (.ref this)])) rfl rfl (hb hby d4_6)
  replace F_this_modCount := F_this_modCount.same W2
  have Z2 : n0 ≤ h2.size := Nat.le_trans Z0 (Nat.le_of_eq W2.size.symm)
  replace KP := KP.wr W2 (Or.inl (by simp))
  have N2 := Fr.snoc X2 N1 g_this
  refine Run.st st2 ?_
  show Run p e below s _ _ _ (T2.setTop (mkF m 9 #[.val (.ref this)] []))
  replace E_this := E_this.wr W2
  replace F_this_elementData := F_this_elementData.other W2 (Or.inr (slot_ne (Or.inl (hw _ (List.mem_of_getElem? (i := 47) rfl))) (Or.inl (hw _ (List.mem_of_getElem? (i := 44) rfl))) (by decide) (t := (.array (.object "java/lang/Object"))) (t' := .int) (by decide) (by decide)))
  refine Run.retV X2 hx hlk e2 hret (hb hby d4_9) (by decide) (by decide) ?_
  exact ⟨rfl, N2, KP, F_this_elementData⟩
theorem d5_0 : decode jdk_38_method_2_code 0 = .ok (.aload_n 0, 1) := by decide +kernel
theorem d5_1 : decode jdk_38_method_2_code 1 = .ok (.invokespecial 1, 3) := by decide +kernel
theorem d5_4 : decode jdk_38_method_2_code 4 = .ok (.aload_n 0, 1) := by decide +kernel
theorem d5_5 : decode jdk_38_method_2_code 5 = .ok (.getstatic 39, 3) := by decide +kernel
theorem d5_8 : decode jdk_38_method_2_code 8 = .ok (.putfield 9, 3) := by decide +kernel
theorem d5_11 : decode jdk_38_method_2_code 11 = .ok (.return_, 1) := by decide +kernel
theorem pn_3 : plainName "java/util/ArrayList" = true := by first | (simp [plainName, overriddenIn]; done) | decide +kernel
theorem ef_c_arr (m : MethodId) (this : Addr) : entryFrame m #[(.ref this)] 1 = mkF m 0 #[.val (.ref this)] [] := by first | (simp [entryFrame, mkF, argsToLocals, Value.category]; done) | rfl
set_option maxRecDepth 65536 in
set_option maxHeartbeats 40000000 in
theorem c_arr (l : Launch) (Z : State) (a0 : Array Value) (hw : ∀ d ∈ tables_1, d.before a0 Z = true) (this : Addr) (h0 : Heap) (n0 : Nat) (Z0 : n0 ≤ h0.size) (sd : Addr) (E_this : Exa Z h0 this "java/util/ArrayList") (F_this_modCount : Fld Z h0 this "java/util/AbstractList" "modCount" "I" (.int (0 : Int32))) (F_this_elementData : Fld Z h0 this "java/util/ArrayList" "elementData" "[Ljava/lang/Object;" .null) (S_DEFAULTCAPACITY_EMPTY_ELEMENTDATA : Sta Z h0 "java/util/ArrayList" "DEFAULTCAPACITY_EMPTY_ELEMENTDATA" "[Ljava/lang/Object;" (.ref sd)) (g_this : n0 ≤ this) :
    Ctr l Z (⟨"java/util/ArrayList", "<init>", "()V"⟩ : MethodName) jdk_38_method_2_code 1 none ({ frames := 3, cells := 0, slots := 0, locals := 36 } : Room) #[(.ref this)] h0 (fun v h L => v = none ∧ Fr n0 L ∧ Keep h0 h [this]) := by
  refine Ctr.of (plainFor_of_name pn_3) (fun m => ef_c_arr m this) ?_
  intro p e s m below meth c T0 hx hby hml hown hnm hret hlk hZ e0 X0
  have N0 := Fr.nil n0
  replace hown : s.vm.findClass "java/util/ArrayList" = some m.cls := hown
  replace hml : c.maxLocals = 1 := hml
  have KP := Keep.refl h0 [this]
  refine Run.x_aloadN (q := 1) X0 hx (hb hby d5_0) rfl rfl rfl ?_
  refine Run.callC X0 hx hZ e0 (y := (⟨"java/util/AbstractList", "<init>", "()V"⟩ : MethodName)) hown rfl (hw _ (List.mem_of_getElem? (i := 30) rfl)) (hw _ (List.mem_of_getElem? (i := 31) rfl)) (hw _ (List.mem_of_getElem? (i := 34) rfl)) (hw _ (List.mem_of_getElem? (i := 35) rfl)) (by decide) (a := this) (argsL := []) (rest := []) (c_alist l Z a0 hw this h0 n0 Z0 E_this F_this_modCount F_this_elementData g_this) pd_0 rfl (by rw [hml]; rfl) (W := 0) rfl (by decide) (by decide) (by decide) (by decide) (hb hby d5_1) rfl ?_
  intro T1 v1 L1 X1 q1
  obtain ⟨rfl, M1, K1, Fe1⟩ := q1
  have N1 := Fr.app N0 M1
  show Run p e below s _ _ _ (T1.setTop (mkF m 4 #[.val (.ref this)] []))
  replace S_DEFAULTCAPACITY_EMPTY_ELEMENTDATA := Sta_keep S_DEFAULTCAPACITY_EMPTY_ELEMENTDATA K1 (allS (Exa_ns E_this) all0)
  have Z1 : n0 ≤ T1.heap.size := Nat.le_trans Z0 K1.1
  replace KP := KP.trans K1 (allS (Or.inl (by simp)) all0)
  refine Run.x_aloadN (q := 5) X1 hx (hb hby d5_4) rfl rfl rfl ?_
  obtain ⟨T2, X2, e2, st2⟩ := getS2 X1 hx hZ hown (host := "") (Or.inl (hw _ (List.mem_of_getElem? (i := 45) rfl))) Via.refl rfl S_DEFAULTCAPACITY_EMPTY_ELEMENTDATA (g := (mkF m 5 #[.val (.ref this)] [(.ref this)])) rfl (hb hby d5_5)
  refine Run.st st2 ?_
  show Run p e below s _ _ _ (T2.setTop (mkF m 8 #[.val (.ref this)] [(.ref sd), (.ref this)]))
  replace E_this := E_this.keep K1
  obtain ⟨T3, h3, X3, e3, W3, st3⟩ := putF X2 hx hZ hown (host := "") (Or.inl (hw _ (List.mem_of_getElem? (i := 46) rfl))) Via.refl e2 Fe1 E_this (Or.inl (hw _ (List.mem_of_getElem? (i := 47) rfl))) (hw _ (List.mem_of_getElem? (i := 25) rfl)) (ty := (.array (.object "java/lang/Object"))) (by decide) rfl rfl (g := (mkF m 8 #[.val (.ref this)] [(.ref sd), (.ref this)])) rfl rfl (hb hby d5_8)
  replace Fe1 := Fe1.same W3
  have Z3 : n0 ≤ h3.size := Nat.le_trans Z1 (Nat.le_of_eq W3.size.symm)
  replace KP := KP.wr W3 (Or.inl (by simp))
  have N3 := Fr.snoc X3 N1 g_this
  refine Run.st st3 ?_
  show Run p e below s _ _ _ (T3.setTop (mkF m 11 #[.val (.ref this)] []))
  replace E_this := E_this.wr W3
  replace S_DEFAULTCAPACITY_EMPTY_ELEMENTDATA := S_DEFAULTCAPACITY_EMPTY_ELEMENTDATA.wr W3
  refine Run.retV X3 hx hlk e3 hret (hb hby d5_11) (by decide) (by decide) ?_
  exact ⟨rfl, N3, KP⟩
theorem d6_0 : decode prog_35_method_1_code 0 = .ok (.aload_n 0, 1) := by decide +kernel
theorem d6_1 : decode prog_35_method_1_code 1 = .ok (.invokespecial 7, 3) := by decide +kernel
theorem d6_4 : decode prog_35_method_1_code 4 = .ok (.aload_n 0, 1) := by decide +kernel
theorem d6_5 : decode prog_35_method_1_code 5 = .ok (.iconst 4, 1) := by decide +kernel
theorem d6_6 : decode prog_35_method_1_code 6 = .ok (.anewarray 15, 3) := by decide +kernel
theorem d6_9 : decode prog_35_method_1_code 9 = .ok (.putfield 17, 3) := by decide +kernel
theorem d6_12 : decode prog_35_method_1_code 12 = .ok (.aload_n 0, 1) := by decide +kernel
theorem d6_13 : decode prog_35_method_1_code 13 = .ok (.iconst 4, 1) := by decide +kernel
theorem d6_14 : decode prog_35_method_1_code 14 = .ok (.anewarray 15, 3) := by decide +kernel
theorem d6_17 : decode prog_35_method_1_code 17 = .ok (.putfield 21, 3) := by decide +kernel
theorem d6_20 : decode prog_35_method_1_code 20 = .ok (.aload_n 0, 1) := by decide +kernel
theorem d6_21 : decode prog_35_method_1_code 21 = .ok (.iconst 4, 1) := by decide +kernel
theorem d6_22 : decode prog_35_method_1_code 22 = .ok (.newarray .boolean, 2) := by decide +kernel
theorem d6_24 : decode prog_35_method_1_code 24 = .ok (.putfield 24, 3) := by decide +kernel
theorem d6_27 : decode prog_35_method_1_code 27 = .ok (.aload_n 0, 1) := by decide +kernel
theorem d6_28 : decode prog_35_method_1_code 28 = .ok (.new 28, 3) := by decide +kernel
theorem d6_31 : decode prog_35_method_1_code 31 = .ok (.dup, 1) := by decide +kernel
theorem d6_32 : decode prog_35_method_1_code 32 = .ok (.invokespecial 30, 3) := by decide +kernel
theorem d6_35 : decode prog_35_method_1_code 35 = .ok (.putfield 31, 3) := by decide +kernel
theorem d6_38 : decode prog_35_method_1_code 38 = .ok (.return_, 1) := by decide +kernel
theorem pn_4 : plainName "semblance/JpegCoefficients" = true := by first | (simp [plainName, overriddenIn]; done) | decide +kernel
theorem ef_c_init (m : MethodId) (this : Addr) : entryFrame m #[(.ref this)] 1 = mkF m 0 #[.val (.ref this)] [] := by first | (simp [entryFrame, mkF, argsToLocals, Value.category]; done) | rfl
set_option maxRecDepth 65536 in
set_option maxHeartbeats 40000000 in
theorem c_init (l : Launch) (Z : State) (a0 : Array Value) (hw : ∀ d ∈ tables_1, d.before a0 Z = true) (this : Addr) (h0 : Heap) (n0 : Nat) (Z0 : n0 ≤ h0.size) (sd : Addr) (E_this : Exa Z h0 this "semblance/JpegCoefficients") (F_this_dcTables : Fld Z h0 this "semblance/JpegCoefficients" "dcTables" "[Lsemblance/JpegHuffmanTable;" .null) (F_this_acTables : Fld Z h0 this "semblance/JpegCoefficients" "acTables" "[Lsemblance/JpegHuffmanTable;" .null) (F_this_quantisation : Fld Z h0 this "semblance/JpegCoefficients" "quantisation" "[Z" .null) (F_this_scans : Fld Z h0 this "semblance/JpegCoefficients" "scans" "Ljava/util/List;" .null) (S_DEFAULTCAPACITY_EMPTY_ELEMENTDATA : Sta Z h0 "java/util/ArrayList" "DEFAULTCAPACITY_EMPTY_ELEMENTDATA" "[Ljava/lang/Object;" (.ref sd)) (g_this : n0 ≤ this) :
    Ctr l Z (⟨"semblance/JpegCoefficients", "<init>", "()V"⟩ : MethodName) prog_35_method_1_code 1 none ({ frames := 4, cells := 4, slots := 15, locals := 50 } : Room) #[(.ref this)] h0 (fun v h L => ∃ q : Addr, v = none ∧ Fr n0 L ∧ Keep h0 h [this] ∧ Fld Z h this "semblance/JpegCoefficients" "quantisation" "[Z" (.ref q) ∧ Ars Z h q .boolean [(.int (0 : Int32)), (.int (0 : Int32)), (.int (0 : Int32)), (.int (0 : Int32))] ∧ h0.size ≤ q) := by
  refine Ctr.of (plainFor_of_name pn_4) (fun m => ef_c_init m this) ?_
  intro p e s m below meth c T0 hx hby hml hown hnm hret hlk hZ e0 X0
  have N0 := Fr.nil n0
  replace hown : s.vm.findClass "semblance/JpegCoefficients" = some m.cls := hown
  replace hml : c.maxLocals = 1 := hml
  have KP := Keep.refl h0 [this]
  refine Run.x_aloadN (q := 1) X0 hx (hb hby d6_0) rfl rfl rfl ?_
  refine Run.init X0 hx hZ e0 hown (hw _ (List.mem_of_getElem? (i := 12) rfl)) (hw _ (List.mem_of_getElem? (i := 13) rfl)) (hw _ (List.mem_of_getElem? (i := 14) rfl)) (by rw [hml]; rfl) (hb hby d6_1) (by decide) (W := 0) rfl (by decide) ?_
  intro T1 X1 e1
  show Run p e below s _ _ _ (T1.setTop (mkF m 4 #[.val (.ref this)] []))
  refine Run.x_aloadN (q := 5) X1 hx (hb hby d6_4) rfl rfl rfl ?_
  refine Run.x_iconst (q := 6) X1 hx (hb hby d6_5) (z := (4 : Int32)) rfl rfl ?_
  refine Run.newR X1 hx hZ e1 hown (hw _ (List.mem_of_getElem? (i := 15) rfl)) (hw _ (List.mem_of_getElem? (i := 16) rfl)) (hb hby d6_6) (len := 4) (by decide) (by decide) (cap := 4) (by decide) (by decide) (by decide) (by decide) ?_
  intro T2 h2 b2 gg2 X2 e2 E2 A_b2
  have g_b2 : n0 ≤ b2 := Nat.le_trans Z0 (Nat.le_of_eq gg2.symm)
  have ne_this_b2 : this ≠ b2 := Nat.ne_of_lt (Nat.lt_of_lt_of_le E_this.lt (Nat.le_of_eq gg2.symm))
  have sz_b2 : h0.size ≤ b2 := Nat.le_trans KP.1 (Nat.le_of_eq gg2.symm)
  have Z2 : n0 ≤ h2.size := Nat.le_trans Z0 E2.1
  replace KP := KP.ext E2
  replace A_b2 : Ars Z h2 b2 (.object "semblance/JpegHuffmanTable") [.null, .null, .null, .null] := A_b2
  show Run p e below s _ _ _ (T2.setTop (mkF m 9 #[.val (.ref this)] [(.ref b2), (.ref this)]))
  replace F_this_dcTables := F_this_dcTables.ext E2
  replace E_this := E_this.ext E2
  obtain ⟨T3, h3, X3, e3, W3, st3⟩ := putF X2 hx hZ hown (host := "") (Or.inl (hw _ (List.mem_of_getElem? (i := 17) rfl))) Via.refl e2 F_this_dcTables E_this (Or.inr ⟨(hw _ (List.mem_of_getElem? (i := 18) rfl)), rfl, hnm⟩) (hw _ (List.mem_of_getElem? (i := 7) rfl)) (ty := (.array (.object "semblance/JpegHuffmanTable"))) (by decide) rfl rfl (g := (mkF m 9 #[.val (.ref this)] [(.ref b2), (.ref this)])) rfl rfl (hb hby d6_9)
  replace F_this_dcTables := F_this_dcTables.same W3
  have Z3 : n0 ≤ h3.size := Nat.le_trans Z2 (Nat.le_of_eq W3.size.symm)
  replace KP := KP.wr W3 (Or.inl (by simp))
  have N3 := Fr.snoc X3 N0 g_this
  refine Run.st st3 ?_
  show Run p e below s _ _ _ (T3.setTop (mkF m 12 #[.val (.ref this)] []))
  refine Run.x_aloadN (q := 13) X3 hx (hb hby d6_12) rfl rfl rfl ?_
  refine Run.x_iconst (q := 14) X3 hx (hb hby d6_13) (z := (4 : Int32)) rfl rfl ?_
  refine Run.newR X3 hx hZ e3 hown (hw _ (List.mem_of_getElem? (i := 15) rfl)) (hw _ (List.mem_of_getElem? (i := 16) rfl)) (hb hby d6_14) (len := 4) (by decide) (by decide) (cap := 4) (by decide) (by decide) (by decide) (by decide) ?_
  intro T4 h4 b4 gg4 X4 e4 E4 A_b4
  have g_b4 : n0 ≤ b4 := Nat.le_trans Z3 (Nat.le_of_eq gg4.symm)
  replace E_this := E_this.wr W3
  have ne_this_b4 : this ≠ b4 := Nat.ne_of_lt (Nat.lt_of_lt_of_le E_this.lt (Nat.le_of_eq gg4.symm))
  replace A_b2 := A_b2.other W3 (Ne.symm ne_this_b2)
  have ne_b2_b4 : b2 ≠ b4 := Nat.ne_of_lt (Nat.lt_of_lt_of_le A_b2.lt (Nat.le_of_eq gg4.symm))
  have sz_b4 : h0.size ≤ b4 := Nat.le_trans KP.1 (Nat.le_of_eq gg4.symm)
  have Z4 : n0 ≤ h4.size := Nat.le_trans Z3 E4.1
  replace KP := KP.ext E4
  replace A_b4 : Ars Z h4 b4 (.object "semblance/JpegHuffmanTable") [.null, .null, .null, .null] := A_b4
  show Run p e below s _ _ _ (T4.setTop (mkF m 17 #[.val (.ref this)] [(.ref b4), (.ref this)]))
  replace F_this_acTables := ((F_this_acTables.ext E2).other W3 (Or.inr (slot_ne (Or.inr (hw _ (List.mem_of_getElem? (i := 20) rfl))) (Or.inr (hw _ (List.mem_of_getElem? (i := 18) rfl))) (by decide) (t := (.array (.object "semblance/JpegHuffmanTable"))) (t' := (.array (.object "semblance/JpegHuffmanTable"))) (by decide) (by decide)))).ext E4
  replace E_this := E_this.ext E4
  obtain ⟨T5, h5, X5, e5, W5, st5⟩ := putF X4 hx hZ hown (host := "") (Or.inl (hw _ (List.mem_of_getElem? (i := 19) rfl))) Via.refl e4 F_this_acTables E_this (Or.inr ⟨(hw _ (List.mem_of_getElem? (i := 20) rfl)), rfl, hnm⟩) (hw _ (List.mem_of_getElem? (i := 7) rfl)) (ty := (.array (.object "semblance/JpegHuffmanTable"))) (by decide) rfl rfl (g := (mkF m 17 #[.val (.ref this)] [(.ref b4), (.ref this)])) rfl rfl (hb hby d6_17)
  replace F_this_acTables := F_this_acTables.same W5
  have Z5 : n0 ≤ h5.size := Nat.le_trans Z4 (Nat.le_of_eq W5.size.symm)
  replace KP := KP.wr W5 (Or.inl (by simp))
  have N5 := Fr.snoc X5 N3 g_this
  refine Run.st st5 ?_
  show Run p e below s _ _ _ (T5.setTop (mkF m 20 #[.val (.ref this)] []))
  refine Run.x_aloadN (q := 21) X5 hx (hb hby d6_20) rfl rfl rfl ?_
  refine Run.x_iconst (q := 22) X5 hx (hb hby d6_21) (z := (4 : Int32)) rfl rfl ?_
  refine Run.newP X5 hx hZ e5 (hw _ (List.mem_of_getElem? (i := 21) rfl)) (hb hby d6_22) (len := 4) (by decide) (by decide) (cap := 4) (by decide) (by decide) (by decide) (by decide) ?_
  intro T6 h6 b6 gg6 X6 e6 E6 A_b6
  have g_b6 : n0 ≤ b6 := Nat.le_trans Z5 (Nat.le_of_eq gg6.symm)
  replace E_this := E_this.wr W5
  have ne_this_b6 : this ≠ b6 := Nat.ne_of_lt (Nat.lt_of_lt_of_le E_this.lt (Nat.le_of_eq gg6.symm))
  replace A_b2 := (A_b2.ext E4).other W5 (Ne.symm ne_this_b2)
  have ne_b2_b6 : b2 ≠ b6 := Nat.ne_of_lt (Nat.lt_of_lt_of_le A_b2.lt (Nat.le_of_eq gg6.symm))
  replace A_b4 := A_b4.other W5 (Ne.symm ne_this_b4)
  have ne_b4_b6 : b4 ≠ b6 := Nat.ne_of_lt (Nat.lt_of_lt_of_le A_b4.lt (Nat.le_of_eq gg6.symm))
  have sz_b6 : h0.size ≤ b6 := Nat.le_trans KP.1 (Nat.le_of_eq gg6.symm)
  have Z6 : n0 ≤ h6.size := Nat.le_trans Z5 E6.1
  replace KP := KP.ext E6
  replace A_b6 : Ars Z h6 b6 .boolean [(.int (0 : Int32)), (.int (0 : Int32)), (.int (0 : Int32)), (.int (0 : Int32))] := A_b6
  show Run p e below s _ _ _ (T6.setTop (mkF m 24 #[.val (.ref this)] [(.ref b6), (.ref this)]))
  replace F_this_quantisation := ((((F_this_quantisation.ext E2).other W3 (Or.inr (slot_ne (Or.inr (hw _ (List.mem_of_getElem? (i := 23) rfl))) (Or.inr (hw _ (List.mem_of_getElem? (i := 18) rfl))) (by decide) (t := (.array .boolean)) (t' := (.array (.object "semblance/JpegHuffmanTable"))) (by decide) (by decide)))).ext E4).other W5 (Or.inr (slot_ne (Or.inr (hw _ (List.mem_of_getElem? (i := 23) rfl))) (Or.inr (hw _ (List.mem_of_getElem? (i := 20) rfl))) (by decide) (t := (.array .boolean)) (t' := (.array (.object "semblance/JpegHuffmanTable"))) (by decide) (by decide)))).ext E6
  replace E_this := E_this.ext E6
  obtain ⟨T7, h7, X7, e7, W7, st7⟩ := putF X6 hx hZ hown (host := "") (Or.inl (hw _ (List.mem_of_getElem? (i := 22) rfl))) Via.refl e6 F_this_quantisation E_this (Or.inr ⟨(hw _ (List.mem_of_getElem? (i := 23) rfl)), rfl, hnm⟩) (hw _ (List.mem_of_getElem? (i := 7) rfl)) (ty := (.array .boolean)) (by decide) rfl rfl (g := (mkF m 24 #[.val (.ref this)] [(.ref b6), (.ref this)])) rfl rfl (hb hby d6_24)
  replace F_this_quantisation := F_this_quantisation.same W7
  have Z7 : n0 ≤ h7.size := Nat.le_trans Z6 (Nat.le_of_eq W7.size.symm)
  replace KP := KP.wr W7 (Or.inl (by simp))
  have N7 := Fr.snoc X7 N5 g_this
  refine Run.st st7 ?_
  show Run p e below s _ _ _ (T7.setTop (mkF m 27 #[.val (.ref this)] []))
  refine Run.x_aloadN (q := 28) X7 hx (hb hby d6_27) rfl rfl rfl ?_
  obtain ⟨T8, h8, X8, e8, E8, A8, D8, -, st8⟩ := newO X7 hx hZ hown (hw _ (List.mem_of_getElem? (i := 24) rfl)) (hw _ (List.mem_of_getElem? (i := 25) rfl)) (hw _ (List.mem_of_getElem? (i := 26) rfl)) e7 (g := (mkF m 28 #[.val (.ref this)] [(.ref this)])) rfl (hb hby d6_28) (by decide) (by decide)
  obtain ⟨b8, gg8⟩ : ∃ z, z = h7.size := ⟨_, rfl⟩
  rw [← gg8] at A8 D8 st8
  have g_b8 : n0 ≤ b8 := Nat.le_trans Z7 (Nat.le_of_eq gg8.symm)
  replace E_this := E_this.wr W7
  have ne_this_b8 : this ≠ b8 := Nat.ne_of_lt (Nat.lt_of_lt_of_le E_this.lt (Nat.le_of_eq gg8.symm))
  replace A_b2 := (A_b2.ext E6).other W7 (Ne.symm ne_this_b2)
  have ne_b2_b8 : b2 ≠ b8 := Nat.ne_of_lt (Nat.lt_of_lt_of_le A_b2.lt (Nat.le_of_eq gg8.symm))
  replace A_b4 := (A_b4.ext E6).other W7 (Ne.symm ne_this_b4)
  have ne_b4_b8 : b4 ≠ b8 := Nat.ne_of_lt (Nat.lt_of_lt_of_le A_b4.lt (Nat.le_of_eq gg8.symm))
  replace A_b6 := A_b6.other W7 (Ne.symm ne_this_b6)
  have ne_b6_b8 : b6 ≠ b8 := Nat.ne_of_lt (Nat.lt_of_lt_of_le A_b6.lt (Nat.le_of_eq gg8.symm))
  have sz_b8 : h0.size ≤ b8 := Nat.le_trans KP.1 (Nat.le_of_eq gg8.symm)
  have Z8 : n0 ≤ h8.size := Nat.le_trans Z7 E8.1
  replace KP := KP.ext E8
  have E_b8 := A8
  have F_b8_modCount : Fld Z h8 b8 "java/util/AbstractList" "modCount" "I" (.int (0 : Int32)) := D8 (Or.inl (hw _ (List.mem_of_getElem? (i := 44) rfl))) (ty := .int) (by decide)
  have F_b8_elementData : Fld Z h8 b8 "java/util/ArrayList" "elementData" "[Ljava/lang/Object;" .null := D8 (Or.inl (hw _ (List.mem_of_getElem? (i := 47) rfl))) (ty := (.array (.object "java/lang/Object"))) (by decide)
  refine Run.st st8 ?_
  show Run p e below s _ _ _ (T8.setTop (mkF m 31 #[.val (.ref this)] [(.ref b8), (.ref this)]))
  refine Run.x_dup (q := 32) X8 hx (hb hby d6_31) rfl rfl ?_
  replace S_DEFAULTCAPACITY_EMPTY_ELEMENTDATA := ((((((S_DEFAULTCAPACITY_EMPTY_ELEMENTDATA.ext E2).wr W3).ext E4).wr W5).ext E6).wr W7).ext E8
  refine Run.callC X8 hx hZ e8 (y := (⟨"java/util/ArrayList", "<init>", "()V"⟩ : MethodName)) hown rfl (hw _ (List.mem_of_getElem? (i := 27) rfl)) (hw _ (List.mem_of_getElem? (i := 28) rfl)) (hw _ (List.mem_of_getElem? (i := 26) rfl)) (hw _ (List.mem_of_getElem? (i := 29) rfl)) (by decide) (a := b8) (argsL := []) (rest := [(.ref b8), (.ref this)]) (c_arr l Z a0 hw b8 h8 n0 Z8 sd E_b8 F_b8_modCount F_b8_elementData S_DEFAULTCAPACITY_EMPTY_ELEMENTDATA g_b8) pd_0 rfl (by rw [hml]; rfl) (W := 2) rfl (by decide) (by decide) (by decide) (by decide) (hb hby d6_32) rfl ?_
  intro T9 v9 L9 X9 q9
  obtain ⟨rfl, M9, K9⟩ := q9
  have N9 := Fr.app N7 M9
  show Run p e below s _ _ _ (T9.setTop (mkF m 35 #[.val (.ref this)] [(.ref b8), (.ref this)]))
  replace S_DEFAULTCAPACITY_EMPTY_ELEMENTDATA := Sta_keep S_DEFAULTCAPACITY_EMPTY_ELEMENTDATA K9 (allS (Exa_ns E_b8) all0)
  have Z9 : n0 ≤ T9.heap.size := Nat.le_trans Z8 K9.1
  replace KP := KP.trans K9 (allS (Or.inr sz_b8) all0)
  replace F_this_scans := (((((((F_this_scans.ext E2).other W3 (Or.inr (slot_ne (Or.inr (hw _ (List.mem_of_getElem? (i := 49) rfl))) (Or.inr (hw _ (List.mem_of_getElem? (i := 18) rfl))) (by decide) (t := (.object "java/util/List")) (t' := (.array (.object "semblance/JpegHuffmanTable"))) (by decide) (by decide)))).ext E4).other W5 (Or.inr (slot_ne (Or.inr (hw _ (List.mem_of_getElem? (i := 49) rfl))) (Or.inr (hw _ (List.mem_of_getElem? (i := 20) rfl))) (by decide) (t := (.object "java/util/List")) (t' := (.array (.object "semblance/JpegHuffmanTable"))) (by decide) (by decide)))).ext E6).other W7 (Or.inr (slot_ne (Or.inr (hw _ (List.mem_of_getElem? (i := 49) rfl))) (Or.inr (hw _ (List.mem_of_getElem? (i := 23) rfl))) (by decide) (t := (.object "java/util/List")) (t' := (.array .boolean)) (by decide) (by decide)))).ext E8).keep K9 (ninS ne_this_b8 nin0)
  replace E_this := (E_this.ext E8).keep K9
  obtain ⟨T10, h10, X10, e10, W10, st10⟩ := putF X9 hx hZ hown (host := "") (Or.inl (hw _ (List.mem_of_getElem? (i := 48) rfl))) Via.refl rfl F_this_scans E_this (Or.inr ⟨(hw _ (List.mem_of_getElem? (i := 49) rfl)), rfl, hnm⟩) (hw _ (List.mem_of_getElem? (i := 7) rfl)) (ty := (.object "java/util/List")) (by decide) rfl rfl (g := (mkF m 35 #[.val (.ref this)] [(.ref b8), (.ref this)])) rfl rfl (hb hby d6_35)
  replace F_this_scans := F_this_scans.same W10
  have Z10 : n0 ≤ h10.size := Nat.le_trans Z9 (Nat.le_of_eq W10.size.symm)
  replace KP := KP.wr W10 (Or.inl (by simp))
  have N10 := Fr.snoc X10 N9 g_this
  refine Run.st st10 ?_
  show Run p e below s _ _ _ (T10.setTop (mkF m 38 #[.val (.ref this)] []))
  replace E_this := E_this.wr W10
  replace F_this_dcTables := ((((((F_this_dcTables.ext E4).other W5 (Or.inr (slot_ne (Or.inr (hw _ (List.mem_of_getElem? (i := 18) rfl))) (Or.inr (hw _ (List.mem_of_getElem? (i := 20) rfl))) (by decide) (t := (.array (.object "semblance/JpegHuffmanTable"))) (t' := (.array (.object "semblance/JpegHuffmanTable"))) (by decide) (by decide)))).ext E6).other W7 (Or.inr (slot_ne (Or.inr (hw _ (List.mem_of_getElem? (i := 18) rfl))) (Or.inr (hw _ (List.mem_of_getElem? (i := 23) rfl))) (by decide) (t := (.array (.object "semblance/JpegHuffmanTable"))) (t' := (.array .boolean)) (by decide) (by decide)))).ext E8).keep K9 (ninS ne_this_b8 nin0)).other W10 (Or.inr (slot_ne (Or.inr (hw _ (List.mem_of_getElem? (i := 18) rfl))) (Or.inr (hw _ (List.mem_of_getElem? (i := 49) rfl))) (by decide) (t := (.array (.object "semblance/JpegHuffmanTable"))) (t' := (.object "java/util/List")) (by decide) (by decide)))
  replace F_this_acTables := ((((F_this_acTables.ext E6).other W7 (Or.inr (slot_ne (Or.inr (hw _ (List.mem_of_getElem? (i := 20) rfl))) (Or.inr (hw _ (List.mem_of_getElem? (i := 23) rfl))) (by decide) (t := (.array (.object "semblance/JpegHuffmanTable"))) (t' := (.array .boolean)) (by decide) (by decide)))).ext E8).keep K9 (ninS ne_this_b8 nin0)).other W10 (Or.inr (slot_ne (Or.inr (hw _ (List.mem_of_getElem? (i := 20) rfl))) (Or.inr (hw _ (List.mem_of_getElem? (i := 49) rfl))) (by decide) (t := (.array (.object "semblance/JpegHuffmanTable"))) (t' := (.object "java/util/List")) (by decide) (by decide)))
  replace F_this_quantisation := ((F_this_quantisation.ext E8).keep K9 (ninS ne_this_b8 nin0)).other W10 (Or.inr (slot_ne (Or.inr (hw _ (List.mem_of_getElem? (i := 23) rfl))) (Or.inr (hw _ (List.mem_of_getElem? (i := 49) rfl))) (by decide) (t := (.array .boolean)) (t' := (.object "java/util/List")) (by decide) (by decide)))
  replace S_DEFAULTCAPACITY_EMPTY_ELEMENTDATA := S_DEFAULTCAPACITY_EMPTY_ELEMENTDATA.wr W10
  replace A_b2 := ((A_b2.ext E8).keep K9 (ninS ne_b2_b8 nin0)).other W10 (Ne.symm ne_this_b2)
  replace A_b4 := ((A_b4.ext E8).keep K9 (ninS ne_b4_b8 nin0)).other W10 (Ne.symm ne_this_b4)
  replace A_b6 := ((A_b6.ext E8).keep K9 (ninS ne_b6_b8 nin0)).other W10 (Ne.symm ne_this_b6)
  replace E_b8 := (E_b8.keep K9).wr W10
  refine Run.retV X10 hx hlk e10 hret (hb hby d6_38) (by decide) (by decide) ?_
  exact ⟨b6, rfl, N10, KP, F_this_quantisation, A_b6, sz_b6⟩
def PureK (n0 : Nat) (z : Int32) (v : Option Value) (h : Heap) (L : List Loc) : Prop := v = some (.int z) ∧ Fr n0 L
theorem PureK_mk {n0 : Nat} {z z' : Int32} {h : Heap} {L : List Loc} (e : z' = z) (N : Fr n0 L) : PureK n0 z (some (.int z')) h L := ⟨by rw [e], N⟩
theorem d7_0 : decode prog_35_method_3_code 0 = .ok (.iconst 0, 1) := by decide +kernel
theorem d7_1 : decode prog_35_method_3_code 1 = .ok (.istore_n 2, 1) := by decide +kernel
theorem d7_2 : decode prog_35_method_3_code 2 = .ok (.iload_n 2, 1) := by decide +kernel
theorem d7_3 : decode prog_35_method_3_code 3 = .ok (.aload_n 1, 1) := by decide +kernel
theorem d7_4 : decode prog_35_method_3_code 4 = .ok (.arraylength, 1) := by decide +kernel
theorem d7_5 : decode prog_35_method_3_code 5 = .ok (.if_icmp .ge 62, 3) := by decide +kernel
theorem d7_8 : decode prog_35_method_3_code 8 = .ok (.aload_n 1, 1) := by decide +kernel
theorem d7_9 : decode prog_35_method_3_code 9 = .ok (.iload_n 2, 1) := by decide +kernel
theorem d7_10 : decode prog_35_method_3_code 10 = .ok (.iinc 2 1, 3) := by decide +kernel
theorem d7_13 : decode prog_35_method_3_code 13 = .ok (.baload, 1) := by decide +kernel
theorem d7_14 : decode prog_35_method_3_code 14 = .ok (.sipush 255, 3) := by decide +kernel
theorem d7_17 : decode prog_35_method_3_code 17 = .ok (.iand, 1) := by decide +kernel
theorem d7_18 : decode prog_35_method_3_code 18 = .ok (.istore_n 3, 1) := by decide +kernel
theorem d7_19 : decode prog_35_method_3_code 19 = .ok (.iload_n 3, 1) := by decide +kernel
theorem d7_20 : decode prog_35_method_3_code 20 = .ok (.bipush 15, 2) := by decide +kernel
theorem d7_22 : decode prog_35_method_3_code 22 = .ok (.iand, 1) := by decide +kernel
theorem d7_23 : decode prog_35_method_3_code 23 = .ok (.istore 4, 2) := by decide +kernel
theorem d7_25 : decode prog_35_method_3_code 25 = .ok (.iload_n 2, 1) := by decide +kernel
theorem d7_26 : decode prog_35_method_3_code 26 = .ok (.iload_n 3, 1) := by decide +kernel
theorem d7_27 : decode prog_35_method_3_code 27 = .ok (.iconst 4, 1) := by decide +kernel
theorem d7_28 : decode prog_35_method_3_code 28 = .ok (.ishr, 1) := by decide +kernel
theorem d7_29 : decode prog_35_method_3_code 29 = .ok (.ifCond .ne 8, 3) := by decide +kernel
theorem d7_32 : decode prog_35_method_3_code 32 = .ok (.bipush 64, 2) := by decide +kernel
theorem d7_34 : decode prog_35_method_3_code 34 = .ok (.goto 6, 3) := by decide +kernel
theorem d7_37 : decode prog_35_method_3_code 37 = .ok (.sipush 128, 3) := by decide +kernel
theorem d7_40 : decode prog_35_method_3_code 40 = .ok (.iadd, 1) := by decide +kernel
theorem d7_41 : decode prog_35_method_3_code 41 = .ok (.istore_n 2, 1) := by decide +kernel
theorem d7_42 : decode prog_35_method_3_code 42 = .ok (.iload 4, 2) := by decide +kernel
theorem d7_44 : decode prog_35_method_3_code 44 = .ok (.iconst 4, 1) := by decide +kernel
theorem d7_45 : decode prog_35_method_3_code 45 = .ok (.if_icmp .ge 9, 3) := by decide +kernel
theorem d7_48 : decode prog_35_method_3_code 48 = .ok (.iload_n 2, 1) := by decide +kernel
theorem d7_49 : decode prog_35_method_3_code 49 = .ok (.aload_n 1, 1) := by decide +kernel
theorem d7_50 : decode prog_35_method_3_code 50 = .ok (.arraylength, 1) := by decide +kernel
theorem d7_51 : decode prog_35_method_3_code 51 = .ok (.if_icmp .le 5, 3) := by decide +kernel
theorem d7_54 : decode prog_35_method_3_code 54 = .ok (.iconst 0, 1) := by decide +kernel
theorem d7_55 : decode prog_35_method_3_code 55 = .ok (.ireturn, 1) := by decide +kernel
theorem d7_56 : decode prog_35_method_3_code 56 = .ok (.aload_n 0, 1) := by decide +kernel
theorem d7_57 : decode prog_35_method_3_code 57 = .ok (.getfield 24, 3) := by decide +kernel
theorem d7_60 : decode prog_35_method_3_code 60 = .ok (.iload 4, 2) := by decide +kernel
theorem d7_62 : decode prog_35_method_3_code 62 = .ok (.iconst 1, 1) := by decide +kernel
theorem d7_63 : decode prog_35_method_3_code 63 = .ok (.bastore, 1) := by decide +kernel
theorem d7_64 : decode prog_35_method_3_code 64 = .ok (.goto (-62), 3) := by decide +kernel
theorem d7_67 : decode prog_35_method_3_code 67 = .ok (.iconst 1, 1) := by decide +kernel
theorem d7_68 : decode prog_35_method_3_code 68 = .ok (.ireturn, 1) := by decide +kernel
theorem ef_c_rd (m : MethodId) (this : Addr) (seg : Addr) : entryFrame m #[(.ref this), (.ref seg)] 5 = mkF m 0 #[.val (.ref this), .val (.ref seg), .unset, .unset, .unset] [] := by first | (simp [entryFrame, mkF, argsToLocals, Value.category]; done) | rfl
set_option maxRecDepth 65536 in
set_option maxHeartbeats 40000000 in
theorem c_rd (l : Launch) (Z : State) (a0 : Array Value) (hw : ∀ d ∈ tables_1, d.before a0 Z = true) (this : Addr) (seg : Addr) (h0 : Heap) (n0 : Nat) (Z0 : n0 ≤ h0.size) (qa : Addr) (ll : Int32) (y0 : Int32) (y1 : Int32) (y2 : Int32) (y3 : Int32) (vs : List Value) (E_this : Exa Z h0 this "semblance/JpegCoefficients") (F_this_quantisation : Fld Z h0 this "semblance/JpegCoefficients" "quantisation" "[Z" (.ref qa)) (A_seg : Ars Z h0 seg .byte vs) (A_qa : Ars Z h0 qa .boolean [(.int (0 : Int32)), (.int (0 : Int32)), (.int (0 : Int32)), (.int (0 : Int32))]) (g_qa : n0 ≤ qa) (ne_seg_qa : seg ≠ qa) (ne_this_qa : this ≠ qa) (hln : vs.length.toInt32 = ll) (hlt : ll.toInt = vs.length) (hl2 : vs.length ≤ 260) (hy0 : 0 ≤ y0.toInt ∧ y0.toInt ≤ 255) (hy1 : 0 ≤ y1.toInt ∧ y1.toInt ≤ 255) (hy2 : 0 ≤ y2.toInt ∧ y2.toInt ≤ 255) (hy3 : 0 ≤ y3.toInt ∧ y3.toInt ≤ 255) (hq0 : 0 < vs.length → vs[0]? = some (.int y0.toInt8.toInt32)) (hq1 : ∀ i : Nat, (i : Int) = 0 + 1 + own_sz y0 → i < vs.length → vs[i]? = some (.int y1.toInt8.toInt32)) (hq2 : ∀ i : Nat, (i : Int) = 0 + 1 + own_sz y0 + 1 + own_sz y1 → i < vs.length → vs[i]? = some (.int y2.toInt8.toInt32)) (hq3 : ∀ i : Nat, (i : Int) = 0 + 1 + own_sz y0 + 1 + own_sz y1 + 1 + own_sz y2 → i < vs.length → vs[i]? = some (.int y3.toInt8.toInt32)) :
    Ctr l Z (⟨"semblance/JpegCoefficients", "readQuantisationTables", "([B)Z"⟩ : MethodName) prog_35_method_3_code 5 (some .boolean) ({ frames := 0, cells := 0, slots := 0, locals := 0 } : Room) #[(.ref this), (.ref seg)] h0 (PureK n0 (own_b (own_rd ll.toInt 0 [y0, y1, y2, y3]))) := by
  refine Ctr.of (plainFor_of_name pn_4) (fun m => ef_c_rd m this seg) ?_
  intro p e s m below meth c T0 hx hby hml hown hnm hret hlk hZ e0 X0
  have N0 := Fr.nil n0
  replace hown : s.vm.findClass "semblance/JpegCoefficients" = some m.cls := hown
  replace hml : c.maxLocals = 5 := hml
  refine Run.x_iconst (q := 1) X0 hx (hb hby d7_0) (z := (0 : Int32)) rfl rfl ?_
  refine Run.x_istoreN (q := 2) X0 hx #[.val (.ref this), .val (.ref seg), .val (.int (0 : Int32)), .unset, .unset] (hb hby d7_1) rfl rfl ?_
  refine Run.x_iloadN (q := 3) X0 hx (hb hby d7_2) rfl rfl ?_
  refine Run.x_aloadN (q := 4) X0 hx (hb hby d7_3) rfl rfl rfl ?_
  refine Run.alen X0 hx hZ e0 A_seg (z := ll) hln (hb hby d7_4) ?_
  show Run p e below s _ _ _ (T0.setTop (mkF m 5 #[.val (.ref this), .val (.ref seg), .val (.int (0 : Int32)), .unset, .unset] [(.int ll), (.int (0 : Int32))]))
  by_cases hc5 : (0 : Int32) < ll
  · skip
    refine Run.x_icmpNo (q := 8) X0 hx (hb hby d7_5) (tlt hc5).2.1 rfl ?_
    refine Run.x_aloadN (q := 9) X0 hx (hb hby d7_8) rfl rfl rfl ?_
    refine Run.x_iloadN (q := 10) X0 hx (hb hby d7_9) rfl rfl ?_
    refine Run.x_iinc (q := 13) X0 hx #[.val (.ref this), .val (.ref seg), .val (.int (1 : Int32)), .unset, .unset] (hb hby d7_10) rfl (z := (1 : Int32)) (by decide) rfl rfl ?_
    have hlt0 : 0 < vs.length := by have q := hc5; rw [lt32] at q; have k : (0 : Int32).toInt = 0 := rfl; omega
    have hel0 := hq0 hlt0
    refine Run.ldB X0 hx hZ e0 A_seg (i := 0) (v := (.int y0.toInt8.toInt32)) (by decide) hel0 (hb hby d7_13) ?_
    show Run p e below s _ _ _ (T0.setTop (mkF m 14 #[.val (.ref this), .val (.ref seg), .val (.int (1 : Int32)), .unset, .unset] [(.int y0.toInt8.toInt32)]))
    refine Run.x_sipush (q := 17) X0 hx (hb hby d7_14) (z := (255 : Int32)) rfl rfl ?_
    refine Run.x_iand (q := 18) X0 hx (hb hby d7_17) rfl rfl ?_
    rw [own_back hy0.1 hy0.2]
    show Run p e below s _ _ _ (T0.setTop (mkF m 18 #[.val (.ref this), .val (.ref seg), .val (.int (1 : Int32)), .unset, .unset] [(.int y0)]))
    refine Run.x_istoreN (q := 19) X0 hx #[.val (.ref this), .val (.ref seg), .val (.int (1 : Int32)), .val (.int y0), .unset] (hb hby d7_18) rfl rfl ?_
    refine Run.x_iloadN (q := 20) X0 hx (hb hby d7_19) rfl rfl ?_
    refine Run.x_bipush (q := 22) X0 hx (hb hby d7_20) (z := (15 : Int32)) rfl rfl ?_
    refine Run.x_iand (q := 23) X0 hx (hb hby d7_22) rfl rfl ?_
    refine Run.x_istore (q := 25) X0 hx #[.val (.ref this), .val (.ref seg), .val (.int (1 : Int32)), .val (.int y0), .val (.int (y0 &&& (15 : Int32)))] (hb hby d7_23) rfl rfl ?_
    refine Run.x_iloadN (q := 26) X0 hx (hb hby d7_25) rfl rfl ?_
    refine Run.x_iloadN (q := 27) X0 hx (hb hby d7_26) rfl rfl ?_
    refine Run.x_iconst (q := 28) X0 hx (hb hby d7_27) (z := (4 : Int32)) rfl rfl ?_
    refine Run.x_ishr (q := 29) X0 hx (hb hby d7_28) rfl rfl ?_
    by_cases hk0 : y0 < 16
    · have hs0 := own_s16 hk0
      refine Run.x_ifNo (q := 32) X0 hx (hb hby d7_29) ((if0 _ _).trans (teq ((own_sh4 hy0.1 hy0.2).mpr hk0)).2) rfl ?_
      refine Run.x_bipush (q := 34) X0 hx (hb hby d7_32) (z := (64 : Int32)) rfl rfl ?_
      refine Run.x_goto (q := 40) X0 hx (hb hby d7_34) (by decide) (by decide) ?_
      refine Run.x_iadd (q := 41) X0 hx (hb hby d7_40) (z := (65 : Int32)) (by decide) rfl ?_
      refine Run.x_istoreN (q := 42) X0 hx #[.val (.ref this), .val (.ref seg), .val (.int (65 : Int32)), .val (.int y0), .val (.int (y0 &&& (15 : Int32)))] (hb hby d7_41) rfl rfl ?_
      refine Run.x_iload (q := 44) X0 hx (hb hby d7_42) rfl rfl ?_
      refine Run.x_iconst (q := 45) X0 hx (hb hby d7_44) (z := (4 : Int32)) rfl rfl ?_
      by_cases hc45 : (y0 &&& (15 : Int32)) < (4 : Int32)
      · skip
        refine Run.x_icmpNo (q := 48) X0 hx (hb hby d7_45) (tlt hc45).2.1 rfl ?_
        refine Run.x_iloadN (q := 49) X0 hx (hb hby d7_48) rfl rfl ?_
        refine Run.x_aloadN (q := 50) X0 hx (hb hby d7_49) rfl rfl rfl ?_
        refine Run.alen X0 hx hZ e0 A_seg (z := ll) hln (hb hby d7_50) ?_
        show Run p e below s _ _ _ (T0.setTop (mkF m 51 #[.val (.ref this), .val (.ref seg), .val (.int (65 : Int32)), .val (.int y0), .val (.int (y0 &&& (15 : Int32)))] [(.int ll), (.int (65 : Int32))]))
        by_cases hc51 : ll < (65 : Int32)
        · skip
          refine Run.x_icmpNo (q := 54) X0 hx (hb hby d7_51) (tlt hc51).2.2.2 rfl ?_
          refine Run.x_iconst (q := 55) X0 hx (hb hby d7_54) (z := (0 : Int32)) rfl rfl ?_
          refine Run.retN X0 hx hlk e0 (t := .boolean) hret (by simp) (z' := (0 : Int32)) (by decide) (hb hby d7_55) (by decide) (by decide) ?_
          have kk : (0 : Int32).toInt = 0 ∧ (65 : Int32).toInt = 65 ∧ (4 : Int32).toInt = 4 := by decide
          have hgt : ¬ (65 : Int) ≤ ll.toInt := by have q := hc51; rw [lt32] at q; omega
          have hne0 : ¬ (0 : Int) = ll.toInt := by have q := hc5; rw [lt32] at q; omega
          exact PureK_mk ((own_b0 (own_rd_no2 hne0 (by rw [hs0]; rfl : (0 : Int) + 1 + own_sz y0 = 65) hgt)).symm) N0
        · skip
          refine Run.x_icmpYes (q := 56) X0 hx (hb hby d7_51) (flt hc51).2.2.2 (by decide) (by decide) ?_
          refine Run.x_aloadN (q := 57) X0 hx (hb hby d7_56) rfl rfl rfl ?_
          obtain ⟨T1, X1, e1, st1⟩ := getF X0 hx hZ hown (host := "") (Or.inl (hw _ (List.mem_of_getElem? (i := 22) rfl))) Via.refl e0 F_this_quantisation (g := (mkF m 57 #[.val (.ref this), .val (.ref seg), .val (.int (65 : Int32)), .val (.int y0), .val (.int (y0 &&& (15 : Int32)))] [(.ref this)])) rfl rfl (hb hby d7_57)
          refine Run.st st1 ?_
          show Run p e below s _ _ _ (T1.setTop (mkF m 60 #[.val (.ref this), .val (.ref seg), .val (.int (65 : Int32)), .val (.int y0), .val (.int (y0 &&& (15 : Int32)))] [(.ref qa)]))
          refine Run.x_iload (q := 62) X1 hx (hb hby d7_60) rfl rfl ?_
          refine Run.x_iconst (q := 63) X1 hx (hb hby d7_62) (z := (1 : Int32)) rfl rfl ?_
          have hj63 := own_n15 y0
          obtain ⟨iq0, hiq0⟩ : ∃ i : Nat, (y0 &&& (15 : Int32)).toInt = i := ⟨(y0 &&& (15 : Int32)).toInt.toNat, by omega⟩
          have hib0 : iq0 < ([(.int (0 : Int32)), (.int (0 : Int32)), (.int (0 : Int32)), (.int (0 : Int32))] : List Value).length := by
            have q4 := hc45; rw [lt32] at q4; have k4 : (4 : Int32).toInt = 4 := rfl; have hh := hiq0; simp only [List.length_set, List.length_cons, List.length_nil]; omega
          refine Run.stZ X1 hx hZ e1 A_qa (i := iq0) hiq0 hib0 (z' := (1 : Int32)) (by decide) (hb hby d7_63) ?_
          intro T2 h2 X2 e2 W2 A2
          replace A_qa : Ars Z h2 qa .boolean ([(.int (0 : Int32)), (.int (0 : Int32)), (.int (0 : Int32)), (.int (0 : Int32))].set iq0 (Value.int (1 : Int32))) := A2
          have N2 := Fr.snoc X2 N0 g_qa
          have Z2 : n0 ≤ h2.size := Nat.le_trans Z0 (Nat.le_of_eq W2.size.symm)
          show Run p e below s _ _ _ (T2.setTop (mkF m 64 #[.val (.ref this), .val (.ref seg), .val (.int (65 : Int32)), .val (.int y0), .val (.int (y0 &&& (15 : Int32)))] []))
          refine Run.x_goto (q := 2) X2 hx (hb hby d7_64) (by decide) (by decide) ?_
          refine Run.x_iloadN (q := 3) X2 hx (hb hby d7_2) rfl rfl ?_
          refine Run.x_aloadN (q := 4) X2 hx (hb hby d7_3) rfl rfl rfl ?_
          replace A_seg := A_seg.other W2 ne_seg_qa
          refine Run.alen X2 hx hZ e2 A_seg (z := ll) hln (hb hby d7_4) ?_
          show Run p e below s _ _ _ (T2.setTop (mkF m 5 #[.val (.ref this), .val (.ref seg), .val (.int (65 : Int32)), .val (.int y0), .val (.int (y0 &&& (15 : Int32)))] [(.int ll), (.int (65 : Int32))]))
          by_cases hc5' : (65 : Int32) < ll
          · skip
            refine Run.x_icmpNo (q := 8) X2 hx (hb hby d7_5) (tlt hc5').2.1 rfl ?_
            refine Run.x_aloadN (q := 9) X2 hx (hb hby d7_8) rfl rfl rfl ?_
            refine Run.x_iloadN (q := 10) X2 hx (hb hby d7_9) rfl rfl ?_
            refine Run.x_iinc (q := 13) X2 hx #[.val (.ref this), .val (.ref seg), .val (.int (66 : Int32)), .val (.int y0), .val (.int (y0 &&& (15 : Int32)))] (hb hby d7_10) rfl (z := (66 : Int32)) (by decide) rfl rfl ?_
            have hlt1 : 65 < vs.length := by have q := hc5'; rw [lt32] at q; have k : (65 : Int32).toInt = 65 := rfl; omega
            have hel1 := hq1 65 (by rw [hs0]; rfl) hlt1
            refine Run.ldB X2 hx hZ e2 A_seg (i := 65) (v := (.int y1.toInt8.toInt32)) (by decide) hel1 (hb hby d7_13) ?_
            show Run p e below s _ _ _ (T2.setTop (mkF m 14 #[.val (.ref this), .val (.ref seg), .val (.int (66 : Int32)), .val (.int y0), .val (.int (y0 &&& (15 : Int32)))] [(.int y1.toInt8.toInt32)]))
            refine Run.x_sipush (q := 17) X2 hx (hb hby d7_14) (z := (255 : Int32)) rfl rfl ?_
            refine Run.x_iand (q := 18) X2 hx (hb hby d7_17) rfl rfl ?_
            rw [own_back hy1.1 hy1.2]
            show Run p e below s _ _ _ (T2.setTop (mkF m 18 #[.val (.ref this), .val (.ref seg), .val (.int (66 : Int32)), .val (.int y0), .val (.int (y0 &&& (15 : Int32)))] [(.int y1)]))
            refine Run.x_istoreN (q := 19) X2 hx #[.val (.ref this), .val (.ref seg), .val (.int (66 : Int32)), .val (.int y1), .val (.int (y0 &&& (15 : Int32)))] (hb hby d7_18) rfl rfl ?_
            refine Run.x_iloadN (q := 20) X2 hx (hb hby d7_19) rfl rfl ?_
            refine Run.x_bipush (q := 22) X2 hx (hb hby d7_20) (z := (15 : Int32)) rfl rfl ?_
            refine Run.x_iand (q := 23) X2 hx (hb hby d7_22) rfl rfl ?_
            refine Run.x_istore (q := 25) X2 hx #[.val (.ref this), .val (.ref seg), .val (.int (66 : Int32)), .val (.int y1), .val (.int (y1 &&& (15 : Int32)))] (hb hby d7_23) rfl rfl ?_
            refine Run.x_iloadN (q := 26) X2 hx (hb hby d7_25) rfl rfl ?_
            refine Run.x_iloadN (q := 27) X2 hx (hb hby d7_26) rfl rfl ?_
            refine Run.x_iconst (q := 28) X2 hx (hb hby d7_27) (z := (4 : Int32)) rfl rfl ?_
            refine Run.x_ishr (q := 29) X2 hx (hb hby d7_28) rfl rfl ?_
            by_cases hk1 : y1 < 16
            · have hs1 := own_s16 hk1
              refine Run.x_ifNo (q := 32) X2 hx (hb hby d7_29) ((if0 _ _).trans (teq ((own_sh4 hy1.1 hy1.2).mpr hk1)).2) rfl ?_
              refine Run.x_bipush (q := 34) X2 hx (hb hby d7_32) (z := (64 : Int32)) rfl rfl ?_
              refine Run.x_goto (q := 40) X2 hx (hb hby d7_34) (by decide) (by decide) ?_
              refine Run.x_iadd (q := 41) X2 hx (hb hby d7_40) (z := (130 : Int32)) (by decide) rfl ?_
              refine Run.x_istoreN (q := 42) X2 hx #[.val (.ref this), .val (.ref seg), .val (.int (130 : Int32)), .val (.int y1), .val (.int (y1 &&& (15 : Int32)))] (hb hby d7_41) rfl rfl ?_
              refine Run.x_iload (q := 44) X2 hx (hb hby d7_42) rfl rfl ?_
              refine Run.x_iconst (q := 45) X2 hx (hb hby d7_44) (z := (4 : Int32)) rfl rfl ?_
              by_cases hc45' : (y1 &&& (15 : Int32)) < (4 : Int32)
              · skip
                refine Run.x_icmpNo (q := 48) X2 hx (hb hby d7_45) (tlt hc45').2.1 rfl ?_
                refine Run.x_iloadN (q := 49) X2 hx (hb hby d7_48) rfl rfl ?_
                refine Run.x_aloadN (q := 50) X2 hx (hb hby d7_49) rfl rfl rfl ?_
                refine Run.alen X2 hx hZ e2 A_seg (z := ll) hln (hb hby d7_50) ?_
                show Run p e below s _ _ _ (T2.setTop (mkF m 51 #[.val (.ref this), .val (.ref seg), .val (.int (130 : Int32)), .val (.int y1), .val (.int (y1 &&& (15 : Int32)))] [(.int ll), (.int (130 : Int32))]))
                by_cases hc51' : ll < (130 : Int32)
                · skip
                  refine Run.x_icmpNo (q := 54) X2 hx (hb hby d7_51) (tlt hc51').2.2.2 rfl ?_
                  refine Run.x_iconst (q := 55) X2 hx (hb hby d7_54) (z := (0 : Int32)) rfl rfl ?_
                  replace E_this := E_this.wr W2
                  replace F_this_quantisation := F_this_quantisation.other W2 (Or.inl ne_this_qa)
                  refine Run.retN X2 hx hlk e2 (t := .boolean) hret (by simp) (z' := (0 : Int32)) (by decide) (hb hby d7_55) (by decide) (by decide) ?_
                  have kk : (0 : Int32).toInt = 0 ∧ (65 : Int32).toInt = 65 ∧ (130 : Int32).toInt = 130 ∧ (4 : Int32).toInt = 4 := by decide
                  have hgt : ¬ (130 : Int) ≤ ll.toInt := by have q := hc51'; rw [lt32] at q; omega
                  have hne1 : ¬ (65 : Int) = ll.toInt := by have q := hc5'; rw [lt32] at q; omega
                  have hne0 : ¬ (0 : Int) = ll.toInt := by have q := hc5; rw [lt32] at q; omega
                  exact PureK_mk ((own_b0 (own_rd_bk hne0 (by rw [hs0]; rfl : (0 : Int) + 1 + own_sz y0 = 65) (own_rd_no2 hne1 (by rw [hs1]; rfl : (65 : Int) + 1 + own_sz y1 = 130) hgt))).symm) N2
                · skip
                  refine Run.x_icmpYes (q := 56) X2 hx (hb hby d7_51) (flt hc51').2.2.2 (by decide) (by decide) ?_
                  refine Run.x_aloadN (q := 57) X2 hx (hb hby d7_56) rfl rfl rfl ?_
                  replace F_this_quantisation := F_this_quantisation.other W2 (Or.inl ne_this_qa)
                  obtain ⟨T3, X3, e3, st3⟩ := getF X2 hx hZ hown (host := "") (Or.inl (hw _ (List.mem_of_getElem? (i := 22) rfl))) Via.refl e2 F_this_quantisation (g := (mkF m 57 #[.val (.ref this), .val (.ref seg), .val (.int (130 : Int32)), .val (.int y1), .val (.int (y1 &&& (15 : Int32)))] [(.ref this)])) rfl rfl (hb hby d7_57)
                  refine Run.st st3 ?_
                  show Run p e below s _ _ _ (T3.setTop (mkF m 60 #[.val (.ref this), .val (.ref seg), .val (.int (130 : Int32)), .val (.int y1), .val (.int (y1 &&& (15 : Int32)))] [(.ref qa)]))
                  refine Run.x_iload (q := 62) X3 hx (hb hby d7_60) rfl rfl ?_
                  refine Run.x_iconst (q := 63) X3 hx (hb hby d7_62) (z := (1 : Int32)) rfl rfl ?_
                  have hj63 := own_n15 y1
                  obtain ⟨iq1, hiq1⟩ : ∃ i : Nat, (y1 &&& (15 : Int32)).toInt = i := ⟨(y1 &&& (15 : Int32)).toInt.toNat, by omega⟩
                  have hib1 : iq1 < (([(.int (0 : Int32)), (.int (0 : Int32)), (.int (0 : Int32)), (.int (0 : Int32))].set iq0 (Value.int (1 : Int32))) : List Value).length := by
                    have q4 := hc45'; rw [lt32] at q4; have k4 : (4 : Int32).toInt = 4 := rfl; have hh := hiq1; simp only [List.length_set, List.length_cons, List.length_nil]; omega
                  refine Run.stZ X3 hx hZ e3 A_qa (i := iq1) hiq1 hib1 (z' := (1 : Int32)) (by decide) (hb hby d7_63) ?_
                  intro T4 h4 X4 e4 W4 A4
                  replace A_qa : Ars Z h4 qa .boolean (([(.int (0 : Int32)), (.int (0 : Int32)), (.int (0 : Int32)), (.int (0 : Int32))].set iq0 (Value.int (1 : Int32))).set iq1 (Value.int (1 : Int32))) := A4
                  have N4 := Fr.snoc X4 N2 g_qa
                  have Z4 : n0 ≤ h4.size := Nat.le_trans Z2 (Nat.le_of_eq W4.size.symm)
                  show Run p e below s _ _ _ (T4.setTop (mkF m 64 #[.val (.ref this), .val (.ref seg), .val (.int (130 : Int32)), .val (.int y1), .val (.int (y1 &&& (15 : Int32)))] []))
                  refine Run.x_goto (q := 2) X4 hx (hb hby d7_64) (by decide) (by decide) ?_
                  refine Run.x_iloadN (q := 3) X4 hx (hb hby d7_2) rfl rfl ?_
                  refine Run.x_aloadN (q := 4) X4 hx (hb hby d7_3) rfl rfl rfl ?_
                  replace A_seg := A_seg.other W4 ne_seg_qa
                  refine Run.alen X4 hx hZ e4 A_seg (z := ll) hln (hb hby d7_4) ?_
                  show Run p e below s _ _ _ (T4.setTop (mkF m 5 #[.val (.ref this), .val (.ref seg), .val (.int (130 : Int32)), .val (.int y1), .val (.int (y1 &&& (15 : Int32)))] [(.int ll), (.int (130 : Int32))]))
                  by_cases hc5'' : (130 : Int32) < ll
                  · skip
                    refine Run.x_icmpNo (q := 8) X4 hx (hb hby d7_5) (tlt hc5'').2.1 rfl ?_
                    refine Run.x_aloadN (q := 9) X4 hx (hb hby d7_8) rfl rfl rfl ?_
                    refine Run.x_iloadN (q := 10) X4 hx (hb hby d7_9) rfl rfl ?_
                    refine Run.x_iinc (q := 13) X4 hx #[.val (.ref this), .val (.ref seg), .val (.int (131 : Int32)), .val (.int y1), .val (.int (y1 &&& (15 : Int32)))] (hb hby d7_10) rfl (z := (131 : Int32)) (by decide) rfl rfl ?_
                    have hlt2 : 130 < vs.length := by have q := hc5''; rw [lt32] at q; have k : (130 : Int32).toInt = 130 := rfl; omega
                    have hel2 := hq2 130 (by rw [hs0, hs1]; rfl) hlt2
                    refine Run.ldB X4 hx hZ e4 A_seg (i := 130) (v := (.int y2.toInt8.toInt32)) (by decide) hel2 (hb hby d7_13) ?_
                    show Run p e below s _ _ _ (T4.setTop (mkF m 14 #[.val (.ref this), .val (.ref seg), .val (.int (131 : Int32)), .val (.int y1), .val (.int (y1 &&& (15 : Int32)))] [(.int y2.toInt8.toInt32)]))
                    refine Run.x_sipush (q := 17) X4 hx (hb hby d7_14) (z := (255 : Int32)) rfl rfl ?_
                    refine Run.x_iand (q := 18) X4 hx (hb hby d7_17) rfl rfl ?_
                    rw [own_back hy2.1 hy2.2]
                    show Run p e below s _ _ _ (T4.setTop (mkF m 18 #[.val (.ref this), .val (.ref seg), .val (.int (131 : Int32)), .val (.int y1), .val (.int (y1 &&& (15 : Int32)))] [(.int y2)]))
                    refine Run.x_istoreN (q := 19) X4 hx #[.val (.ref this), .val (.ref seg), .val (.int (131 : Int32)), .val (.int y2), .val (.int (y1 &&& (15 : Int32)))] (hb hby d7_18) rfl rfl ?_
                    refine Run.x_iloadN (q := 20) X4 hx (hb hby d7_19) rfl rfl ?_
                    refine Run.x_bipush (q := 22) X4 hx (hb hby d7_20) (z := (15 : Int32)) rfl rfl ?_
                    refine Run.x_iand (q := 23) X4 hx (hb hby d7_22) rfl rfl ?_
                    refine Run.x_istore (q := 25) X4 hx #[.val (.ref this), .val (.ref seg), .val (.int (131 : Int32)), .val (.int y2), .val (.int (y2 &&& (15 : Int32)))] (hb hby d7_23) rfl rfl ?_
                    refine Run.x_iloadN (q := 26) X4 hx (hb hby d7_25) rfl rfl ?_
                    refine Run.x_iloadN (q := 27) X4 hx (hb hby d7_26) rfl rfl ?_
                    refine Run.x_iconst (q := 28) X4 hx (hb hby d7_27) (z := (4 : Int32)) rfl rfl ?_
                    refine Run.x_ishr (q := 29) X4 hx (hb hby d7_28) rfl rfl ?_
                    by_cases hk2 : y2 < 16
                    · have hs2 := own_s16 hk2
                      refine Run.x_ifNo (q := 32) X4 hx (hb hby d7_29) ((if0 _ _).trans (teq ((own_sh4 hy2.1 hy2.2).mpr hk2)).2) rfl ?_
                      refine Run.x_bipush (q := 34) X4 hx (hb hby d7_32) (z := (64 : Int32)) rfl rfl ?_
                      refine Run.x_goto (q := 40) X4 hx (hb hby d7_34) (by decide) (by decide) ?_
                      refine Run.x_iadd (q := 41) X4 hx (hb hby d7_40) (z := (195 : Int32)) (by decide) rfl ?_
                      refine Run.x_istoreN (q := 42) X4 hx #[.val (.ref this), .val (.ref seg), .val (.int (195 : Int32)), .val (.int y2), .val (.int (y2 &&& (15 : Int32)))] (hb hby d7_41) rfl rfl ?_
                      refine Run.x_iload (q := 44) X4 hx (hb hby d7_42) rfl rfl ?_
                      refine Run.x_iconst (q := 45) X4 hx (hb hby d7_44) (z := (4 : Int32)) rfl rfl ?_
                      by_cases hc45'' : (y2 &&& (15 : Int32)) < (4 : Int32)
                      · skip
                        refine Run.x_icmpNo (q := 48) X4 hx (hb hby d7_45) (tlt hc45'').2.1 rfl ?_
                        refine Run.x_iloadN (q := 49) X4 hx (hb hby d7_48) rfl rfl ?_
                        refine Run.x_aloadN (q := 50) X4 hx (hb hby d7_49) rfl rfl rfl ?_
                        refine Run.alen X4 hx hZ e4 A_seg (z := ll) hln (hb hby d7_50) ?_
                        show Run p e below s _ _ _ (T4.setTop (mkF m 51 #[.val (.ref this), .val (.ref seg), .val (.int (195 : Int32)), .val (.int y2), .val (.int (y2 &&& (15 : Int32)))] [(.int ll), (.int (195 : Int32))]))
                        by_cases hc51'' : ll < (195 : Int32)
                        · skip
                          refine Run.x_icmpNo (q := 54) X4 hx (hb hby d7_51) (tlt hc51'').2.2.2 rfl ?_
                          refine Run.x_iconst (q := 55) X4 hx (hb hby d7_54) (z := (0 : Int32)) rfl rfl ?_
                          replace E_this := (E_this.wr W2).wr W4
                          replace F_this_quantisation := F_this_quantisation.other W4 (Or.inl ne_this_qa)
                          refine Run.retN X4 hx hlk e4 (t := .boolean) hret (by simp) (z' := (0 : Int32)) (by decide) (hb hby d7_55) (by decide) (by decide) ?_
                          have kk : (0 : Int32).toInt = 0 ∧ (65 : Int32).toInt = 65 ∧ (130 : Int32).toInt = 130 ∧ (195 : Int32).toInt = 195 ∧ (4 : Int32).toInt = 4 := by decide
                          have hgt : ¬ (195 : Int) ≤ ll.toInt := by have q := hc51''; rw [lt32] at q; omega
                          have hne2 : ¬ (130 : Int) = ll.toInt := by have q := hc5''; rw [lt32] at q; omega
                          have hne1 : ¬ (65 : Int) = ll.toInt := by have q := hc5'; rw [lt32] at q; omega
                          have hne0 : ¬ (0 : Int) = ll.toInt := by have q := hc5; rw [lt32] at q; omega
                          exact PureK_mk ((own_b0 (own_rd_bk hne0 (by rw [hs0]; rfl : (0 : Int) + 1 + own_sz y0 = 65) (own_rd_bk hne1 (by rw [hs1]; rfl : (65 : Int) + 1 + own_sz y1 = 130) (own_rd_no2 hne2 (by rw [hs2]; rfl : (130 : Int) + 1 + own_sz y2 = 195) hgt)))).symm) N4
                        · skip
                          refine Run.x_icmpYes (q := 56) X4 hx (hb hby d7_51) (flt hc51'').2.2.2 (by decide) (by decide) ?_
                          refine Run.x_aloadN (q := 57) X4 hx (hb hby d7_56) rfl rfl rfl ?_
                          replace F_this_quantisation := F_this_quantisation.other W4 (Or.inl ne_this_qa)
                          obtain ⟨T5, X5, e5, st5⟩ := getF X4 hx hZ hown (host := "") (Or.inl (hw _ (List.mem_of_getElem? (i := 22) rfl))) Via.refl e4 F_this_quantisation (g := (mkF m 57 #[.val (.ref this), .val (.ref seg), .val (.int (195 : Int32)), .val (.int y2), .val (.int (y2 &&& (15 : Int32)))] [(.ref this)])) rfl rfl (hb hby d7_57)
                          refine Run.st st5 ?_
                          show Run p e below s _ _ _ (T5.setTop (mkF m 60 #[.val (.ref this), .val (.ref seg), .val (.int (195 : Int32)), .val (.int y2), .val (.int (y2 &&& (15 : Int32)))] [(.ref qa)]))
                          refine Run.x_iload (q := 62) X5 hx (hb hby d7_60) rfl rfl ?_
                          refine Run.x_iconst (q := 63) X5 hx (hb hby d7_62) (z := (1 : Int32)) rfl rfl ?_
                          have hj63 := own_n15 y2
                          obtain ⟨iq2, hiq2⟩ : ∃ i : Nat, (y2 &&& (15 : Int32)).toInt = i := ⟨(y2 &&& (15 : Int32)).toInt.toNat, by omega⟩
                          have hib2 : iq2 < ((([(.int (0 : Int32)), (.int (0 : Int32)), (.int (0 : Int32)), (.int (0 : Int32))].set iq0 (Value.int (1 : Int32))).set iq1 (Value.int (1 : Int32))) : List Value).length := by
                            have q4 := hc45''; rw [lt32] at q4; have k4 : (4 : Int32).toInt = 4 := rfl; have hh := hiq2; simp only [List.length_set, List.length_cons, List.length_nil]; omega
                          refine Run.stZ X5 hx hZ e5 A_qa (i := iq2) hiq2 hib2 (z' := (1 : Int32)) (by decide) (hb hby d7_63) ?_
                          intro T6 h6 X6 e6 W6 A6
                          replace A_qa : Ars Z h6 qa .boolean ((([(.int (0 : Int32)), (.int (0 : Int32)), (.int (0 : Int32)), (.int (0 : Int32))].set iq0 (Value.int (1 : Int32))).set iq1 (Value.int (1 : Int32))).set iq2 (Value.int (1 : Int32))) := A6
                          have N6 := Fr.snoc X6 N4 g_qa
                          have Z6 : n0 ≤ h6.size := Nat.le_trans Z4 (Nat.le_of_eq W6.size.symm)
                          show Run p e below s _ _ _ (T6.setTop (mkF m 64 #[.val (.ref this), .val (.ref seg), .val (.int (195 : Int32)), .val (.int y2), .val (.int (y2 &&& (15 : Int32)))] []))
                          refine Run.x_goto (q := 2) X6 hx (hb hby d7_64) (by decide) (by decide) ?_
                          refine Run.x_iloadN (q := 3) X6 hx (hb hby d7_2) rfl rfl ?_
                          refine Run.x_aloadN (q := 4) X6 hx (hb hby d7_3) rfl rfl rfl ?_
                          replace A_seg := A_seg.other W6 ne_seg_qa
                          refine Run.alen X6 hx hZ e6 A_seg (z := ll) hln (hb hby d7_4) ?_
                          show Run p e below s _ _ _ (T6.setTop (mkF m 5 #[.val (.ref this), .val (.ref seg), .val (.int (195 : Int32)), .val (.int y2), .val (.int (y2 &&& (15 : Int32)))] [(.int ll), (.int (195 : Int32))]))
                          by_cases hc5''' : (195 : Int32) < ll
                          · skip
                            refine Run.x_icmpNo (q := 8) X6 hx (hb hby d7_5) (tlt hc5''').2.1 rfl ?_
                            refine Run.x_aloadN (q := 9) X6 hx (hb hby d7_8) rfl rfl rfl ?_
                            refine Run.x_iloadN (q := 10) X6 hx (hb hby d7_9) rfl rfl ?_
                            refine Run.x_iinc (q := 13) X6 hx #[.val (.ref this), .val (.ref seg), .val (.int (196 : Int32)), .val (.int y2), .val (.int (y2 &&& (15 : Int32)))] (hb hby d7_10) rfl (z := (196 : Int32)) (by decide) rfl rfl ?_
                            have hlt3 : 195 < vs.length := by have q := hc5'''; rw [lt32] at q; have k : (195 : Int32).toInt = 195 := rfl; omega
                            have hel3 := hq3 195 (by rw [hs0, hs1, hs2]; rfl) hlt3
                            refine Run.ldB X6 hx hZ e6 A_seg (i := 195) (v := (.int y3.toInt8.toInt32)) (by decide) hel3 (hb hby d7_13) ?_
                            show Run p e below s _ _ _ (T6.setTop (mkF m 14 #[.val (.ref this), .val (.ref seg), .val (.int (196 : Int32)), .val (.int y2), .val (.int (y2 &&& (15 : Int32)))] [(.int y3.toInt8.toInt32)]))
                            refine Run.x_sipush (q := 17) X6 hx (hb hby d7_14) (z := (255 : Int32)) rfl rfl ?_
                            refine Run.x_iand (q := 18) X6 hx (hb hby d7_17) rfl rfl ?_
                            rw [own_back hy3.1 hy3.2]
                            show Run p e below s _ _ _ (T6.setTop (mkF m 18 #[.val (.ref this), .val (.ref seg), .val (.int (196 : Int32)), .val (.int y2), .val (.int (y2 &&& (15 : Int32)))] [(.int y3)]))
                            refine Run.x_istoreN (q := 19) X6 hx #[.val (.ref this), .val (.ref seg), .val (.int (196 : Int32)), .val (.int y3), .val (.int (y2 &&& (15 : Int32)))] (hb hby d7_18) rfl rfl ?_
                            refine Run.x_iloadN (q := 20) X6 hx (hb hby d7_19) rfl rfl ?_
                            refine Run.x_bipush (q := 22) X6 hx (hb hby d7_20) (z := (15 : Int32)) rfl rfl ?_
                            refine Run.x_iand (q := 23) X6 hx (hb hby d7_22) rfl rfl ?_
                            refine Run.x_istore (q := 25) X6 hx #[.val (.ref this), .val (.ref seg), .val (.int (196 : Int32)), .val (.int y3), .val (.int (y3 &&& (15 : Int32)))] (hb hby d7_23) rfl rfl ?_
                            refine Run.x_iloadN (q := 26) X6 hx (hb hby d7_25) rfl rfl ?_
                            refine Run.x_iloadN (q := 27) X6 hx (hb hby d7_26) rfl rfl ?_
                            refine Run.x_iconst (q := 28) X6 hx (hb hby d7_27) (z := (4 : Int32)) rfl rfl ?_
                            refine Run.x_ishr (q := 29) X6 hx (hb hby d7_28) rfl rfl ?_
                            by_cases hk3 : y3 < 16
                            · have hs3 := own_s16 hk3
                              refine Run.x_ifNo (q := 32) X6 hx (hb hby d7_29) ((if0 _ _).trans (teq ((own_sh4 hy3.1 hy3.2).mpr hk3)).2) rfl ?_
                              refine Run.x_bipush (q := 34) X6 hx (hb hby d7_32) (z := (64 : Int32)) rfl rfl ?_
                              refine Run.x_goto (q := 40) X6 hx (hb hby d7_34) (by decide) (by decide) ?_
                              refine Run.x_iadd (q := 41) X6 hx (hb hby d7_40) (z := (260 : Int32)) (by decide) rfl ?_
                              refine Run.x_istoreN (q := 42) X6 hx #[.val (.ref this), .val (.ref seg), .val (.int (260 : Int32)), .val (.int y3), .val (.int (y3 &&& (15 : Int32)))] (hb hby d7_41) rfl rfl ?_
                              refine Run.x_iload (q := 44) X6 hx (hb hby d7_42) rfl rfl ?_
                              refine Run.x_iconst (q := 45) X6 hx (hb hby d7_44) (z := (4 : Int32)) rfl rfl ?_
                              by_cases hc45''' : (y3 &&& (15 : Int32)) < (4 : Int32)
                              · skip
                                refine Run.x_icmpNo (q := 48) X6 hx (hb hby d7_45) (tlt hc45''').2.1 rfl ?_
                                refine Run.x_iloadN (q := 49) X6 hx (hb hby d7_48) rfl rfl ?_
                                refine Run.x_aloadN (q := 50) X6 hx (hb hby d7_49) rfl rfl rfl ?_
                                refine Run.alen X6 hx hZ e6 A_seg (z := ll) hln (hb hby d7_50) ?_
                                show Run p e below s _ _ _ (T6.setTop (mkF m 51 #[.val (.ref this), .val (.ref seg), .val (.int (260 : Int32)), .val (.int y3), .val (.int (y3 &&& (15 : Int32)))] [(.int ll), (.int (260 : Int32))]))
                                by_cases hc51''' : ll < (260 : Int32)
                                · skip
                                  refine Run.x_icmpNo (q := 54) X6 hx (hb hby d7_51) (tlt hc51''').2.2.2 rfl ?_
                                  refine Run.x_iconst (q := 55) X6 hx (hb hby d7_54) (z := (0 : Int32)) rfl rfl ?_
                                  replace E_this := ((E_this.wr W2).wr W4).wr W6
                                  replace F_this_quantisation := F_this_quantisation.other W6 (Or.inl ne_this_qa)
                                  refine Run.retN X6 hx hlk e6 (t := .boolean) hret (by simp) (z' := (0 : Int32)) (by decide) (hb hby d7_55) (by decide) (by decide) ?_
                                  have kk : (0 : Int32).toInt = 0 ∧ (65 : Int32).toInt = 65 ∧ (130 : Int32).toInt = 130 ∧ (195 : Int32).toInt = 195 ∧ (260 : Int32).toInt = 260 ∧ (4 : Int32).toInt = 4 := by decide
                                  have hgt : ¬ (260 : Int) ≤ ll.toInt := by have q := hc51'''; rw [lt32] at q; omega
                                  have hne3 : ¬ (195 : Int) = ll.toInt := by have q := hc5'''; rw [lt32] at q; omega
                                  have hne2 : ¬ (130 : Int) = ll.toInt := by have q := hc5''; rw [lt32] at q; omega
                                  have hne1 : ¬ (65 : Int) = ll.toInt := by have q := hc5'; rw [lt32] at q; omega
                                  have hne0 : ¬ (0 : Int) = ll.toInt := by have q := hc5; rw [lt32] at q; omega
                                  exact PureK_mk ((own_b0 (own_rd_bk hne0 (by rw [hs0]; rfl : (0 : Int) + 1 + own_sz y0 = 65) (own_rd_bk hne1 (by rw [hs1]; rfl : (65 : Int) + 1 + own_sz y1 = 130) (own_rd_bk hne2 (by rw [hs2]; rfl : (130 : Int) + 1 + own_sz y2 = 195) (own_rd_no2 hne3 (by rw [hs3]; rfl : (195 : Int) + 1 + own_sz y3 = 260) hgt))))).symm) N6
                                · skip
                                  refine Run.x_icmpYes (q := 56) X6 hx (hb hby d7_51) (flt hc51''').2.2.2 (by decide) (by decide) ?_
                                  refine Run.x_aloadN (q := 57) X6 hx (hb hby d7_56) rfl rfl rfl ?_
                                  replace F_this_quantisation := F_this_quantisation.other W6 (Or.inl ne_this_qa)
                                  obtain ⟨T7, X7, e7, st7⟩ := getF X6 hx hZ hown (host := "") (Or.inl (hw _ (List.mem_of_getElem? (i := 22) rfl))) Via.refl e6 F_this_quantisation (g := (mkF m 57 #[.val (.ref this), .val (.ref seg), .val (.int (260 : Int32)), .val (.int y3), .val (.int (y3 &&& (15 : Int32)))] [(.ref this)])) rfl rfl (hb hby d7_57)
                                  refine Run.st st7 ?_
                                  show Run p e below s _ _ _ (T7.setTop (mkF m 60 #[.val (.ref this), .val (.ref seg), .val (.int (260 : Int32)), .val (.int y3), .val (.int (y3 &&& (15 : Int32)))] [(.ref qa)]))
                                  refine Run.x_iload (q := 62) X7 hx (hb hby d7_60) rfl rfl ?_
                                  refine Run.x_iconst (q := 63) X7 hx (hb hby d7_62) (z := (1 : Int32)) rfl rfl ?_
                                  have hj63 := own_n15 y3
                                  obtain ⟨iq3, hiq3⟩ : ∃ i : Nat, (y3 &&& (15 : Int32)).toInt = i := ⟨(y3 &&& (15 : Int32)).toInt.toNat, by omega⟩
                                  have hib3 : iq3 < (((([(.int (0 : Int32)), (.int (0 : Int32)), (.int (0 : Int32)), (.int (0 : Int32))].set iq0 (Value.int (1 : Int32))).set iq1 (Value.int (1 : Int32))).set iq2 (Value.int (1 : Int32))) : List Value).length := by
                                    have q4 := hc45'''; rw [lt32] at q4; have k4 : (4 : Int32).toInt = 4 := rfl; have hh := hiq3; simp only [List.length_set, List.length_cons, List.length_nil]; omega
                                  refine Run.stZ X7 hx hZ e7 A_qa (i := iq3) hiq3 hib3 (z' := (1 : Int32)) (by decide) (hb hby d7_63) ?_
                                  intro T8 h8 X8 e8 W8 A8
                                  replace A_qa : Ars Z h8 qa .boolean (((([(.int (0 : Int32)), (.int (0 : Int32)), (.int (0 : Int32)), (.int (0 : Int32))].set iq0 (Value.int (1 : Int32))).set iq1 (Value.int (1 : Int32))).set iq2 (Value.int (1 : Int32))).set iq3 (Value.int (1 : Int32))) := A8
                                  have N8 := Fr.snoc X8 N6 g_qa
                                  have Z8 : n0 ≤ h8.size := Nat.le_trans Z6 (Nat.le_of_eq W8.size.symm)
                                  show Run p e below s _ _ _ (T8.setTop (mkF m 64 #[.val (.ref this), .val (.ref seg), .val (.int (260 : Int32)), .val (.int y3), .val (.int (y3 &&& (15 : Int32)))] []))
                                  refine Run.x_goto (q := 2) X8 hx (hb hby d7_64) (by decide) (by decide) ?_
                                  refine Run.x_iloadN (q := 3) X8 hx (hb hby d7_2) rfl rfl ?_
                                  refine Run.x_aloadN (q := 4) X8 hx (hb hby d7_3) rfl rfl rfl ?_
                                  replace A_seg := A_seg.other W8 ne_seg_qa
                                  refine Run.alen X8 hx hZ e8 A_seg (z := ll) hln (hb hby d7_4) ?_
                                  show Run p e below s _ _ _ (T8.setTop (mkF m 5 #[.val (.ref this), .val (.ref seg), .val (.int (260 : Int32)), .val (.int y3), .val (.int (y3 &&& (15 : Int32)))] [(.int ll), (.int (260 : Int32))]))
                                  have hend : ¬ (260 : Int32) < ll := by rw [lt32]; have k : (260 : Int32).toInt = 260 := rfl; omega
                                  refine Run.x_icmpYes (q := 67) X8 hx (hb hby d7_5) (flt hend).2.1 (by decide) (by decide) ?_
                                  refine Run.x_iconst (q := 68) X8 hx (hb hby d7_67) (z := (1 : Int32)) rfl rfl ?_
                                  replace E_this := (((E_this.wr W2).wr W4).wr W6).wr W8
                                  replace F_this_quantisation := F_this_quantisation.other W8 (Or.inl ne_this_qa)
                                  refine Run.retN X8 hx hlk e8 (t := .boolean) hret (by simp) (z' := (1 : Int32)) (by decide) (hb hby d7_68) (by decide) (by decide) ?_
                                  have kk : (0 : Int32).toInt = 0 ∧ (65 : Int32).toInt = 65 ∧ (130 : Int32).toInt = 130 ∧ (195 : Int32).toInt = 195 ∧ (260 : Int32).toInt = 260 ∧ (4 : Int32).toInt = 4 := by decide
                                  have hle3 : (260 : Int) ≤ ll.toInt := by have q := hc51'''; rw [lt32] at q; omega
                                  have hle2 : (195 : Int) ≤ ll.toInt := by have q := hc51''; rw [lt32] at q; omega
                                  have hle1 : (130 : Int) ≤ ll.toInt := by have q := hc51'; rw [lt32] at q; omega
                                  have hle0 : (65 : Int) ≤ ll.toInt := by have q := hc51; rw [lt32] at q; omega
                                  exact PureK_mk ((own_b1 (own_rd_step ((own_n4 y0).mp hc45) (by rw [hs0]; rfl : (0 : Int) + 1 + own_sz y0 = 65) hle0 (own_rd_step ((own_n4 y1).mp hc45') (by rw [hs1]; rfl : (65 : Int) + 1 + own_sz y1 = 130) hle1 (own_rd_step ((own_n4 y2).mp hc45'') (by rw [hs2]; rfl : (130 : Int) + 1 + own_sz y2 = 195) hle2 (own_rd_step ((own_n4 y3).mp hc45''') (by rw [hs3]; rfl : (195 : Int) + 1 + own_sz y3 = 260) hle3 own_rd0))))).symm) N8
                              · skip
                                refine Run.x_icmpYes (q := 54) X6 hx (hb hby d7_45) (flt hc45''').2.1 (by decide) (by decide) ?_
                                refine Run.x_iconst (q := 55) X6 hx (hb hby d7_54) (z := (0 : Int32)) rfl rfl ?_
                                replace E_this := ((E_this.wr W2).wr W4).wr W6
                                replace F_this_quantisation := F_this_quantisation.other W6 (Or.inl ne_this_qa)
                                refine Run.retN X6 hx hlk e6 (t := .boolean) hret (by simp) (z' := (0 : Int32)) (by decide) (hb hby d7_55) (by decide) (by decide) ?_
                                have kk : (0 : Int32).toInt = 0 ∧ (65 : Int32).toInt = 65 ∧ (130 : Int32).toInt = 130 ∧ (195 : Int32).toInt = 195 ∧ (260 : Int32).toInt = 260 ∧ (4 : Int32).toInt = 4 := by decide
                                have hne3 : ¬ (195 : Int) = ll.toInt := by have q := hc5'''; rw [lt32] at q; omega
                                have hne2 : ¬ (130 : Int) = ll.toInt := by have q := hc5''; rw [lt32] at q; omega
                                have hne1 : ¬ (65 : Int) = ll.toInt := by have q := hc5'; rw [lt32] at q; omega
                                have hne0 : ¬ (0 : Int) = ll.toInt := by have q := hc5; rw [lt32] at q; omega
                                exact PureK_mk ((own_b0 (own_rd_bk hne0 (by rw [hs0]; rfl : (0 : Int) + 1 + own_sz y0 = 65) (own_rd_bk hne1 (by rw [hs1]; rfl : (65 : Int) + 1 + own_sz y1 = 130) (own_rd_bk hne2 (by rw [hs2]; rfl : (130 : Int) + 1 + own_sz y2 = 195) (own_rd_no1 hne3 (mt (own_n4 y3).mpr hc45''')))))).symm) N6
                            · have hs3 := own_s16' hk3
                              refine Run.x_ifYes (q := 37) X6 hx (hb hby d7_29) ((if0 _ _).trans (feq (mt (own_sh4 hy3.1 hy3.2).mp hk3)).2) (by decide) (by decide) ?_
                              refine Run.x_sipush (q := 40) X6 hx (hb hby d7_37) (z := (128 : Int32)) rfl rfl ?_
                              refine Run.x_iadd (q := 41) X6 hx (hb hby d7_40) (z := (324 : Int32)) (by decide) rfl ?_
                              refine Run.x_istoreN (q := 42) X6 hx #[.val (.ref this), .val (.ref seg), .val (.int (324 : Int32)), .val (.int y3), .val (.int (y3 &&& (15 : Int32)))] (hb hby d7_41) rfl rfl ?_
                              refine Run.x_iload (q := 44) X6 hx (hb hby d7_42) rfl rfl ?_
                              refine Run.x_iconst (q := 45) X6 hx (hb hby d7_44) (z := (4 : Int32)) rfl rfl ?_
                              by_cases hc45''' : (y3 &&& (15 : Int32)) < (4 : Int32)
                              · skip
                                refine Run.x_icmpNo (q := 48) X6 hx (hb hby d7_45) (tlt hc45''').2.1 rfl ?_
                                refine Run.x_iloadN (q := 49) X6 hx (hb hby d7_48) rfl rfl ?_
                                refine Run.x_aloadN (q := 50) X6 hx (hb hby d7_49) rfl rfl rfl ?_
                                refine Run.alen X6 hx hZ e6 A_seg (z := ll) hln (hb hby d7_50) ?_
                                show Run p e below s _ _ _ (T6.setTop (mkF m 51 #[.val (.ref this), .val (.ref seg), .val (.int (324 : Int32)), .val (.int y3), .val (.int (y3 &&& (15 : Int32)))] [(.int ll), (.int (324 : Int32))]))
                                by_cases hc51''' : ll < (324 : Int32)
                                · skip
                                  refine Run.x_icmpNo (q := 54) X6 hx (hb hby d7_51) (tlt hc51''').2.2.2 rfl ?_
                                  refine Run.x_iconst (q := 55) X6 hx (hb hby d7_54) (z := (0 : Int32)) rfl rfl ?_
                                  replace E_this := ((E_this.wr W2).wr W4).wr W6
                                  replace F_this_quantisation := F_this_quantisation.other W6 (Or.inl ne_this_qa)
                                  refine Run.retN X6 hx hlk e6 (t := .boolean) hret (by simp) (z' := (0 : Int32)) (by decide) (hb hby d7_55) (by decide) (by decide) ?_
                                  have kk : (0 : Int32).toInt = 0 ∧ (65 : Int32).toInt = 65 ∧ (130 : Int32).toInt = 130 ∧ (195 : Int32).toInt = 195 ∧ (324 : Int32).toInt = 324 ∧ (4 : Int32).toInt = 4 := by decide
                                  have hgt : ¬ (324 : Int) ≤ ll.toInt := by have q := hc51'''; rw [lt32] at q; omega
                                  have hne3 : ¬ (195 : Int) = ll.toInt := by have q := hc5'''; rw [lt32] at q; omega
                                  have hne2 : ¬ (130 : Int) = ll.toInt := by have q := hc5''; rw [lt32] at q; omega
                                  have hne1 : ¬ (65 : Int) = ll.toInt := by have q := hc5'; rw [lt32] at q; omega
                                  have hne0 : ¬ (0 : Int) = ll.toInt := by have q := hc5; rw [lt32] at q; omega
                                  exact PureK_mk ((own_b0 (own_rd_bk hne0 (by rw [hs0]; rfl : (0 : Int) + 1 + own_sz y0 = 65) (own_rd_bk hne1 (by rw [hs1]; rfl : (65 : Int) + 1 + own_sz y1 = 130) (own_rd_bk hne2 (by rw [hs2]; rfl : (130 : Int) + 1 + own_sz y2 = 195) (own_rd_no2 hne3 (by rw [hs3]; rfl : (195 : Int) + 1 + own_sz y3 = 324) hgt))))).symm) N6
                                · skip
                                  refine Run.x_icmpYes (q := 56) X6 hx (hb hby d7_51) (flt hc51''').2.2.2 (by decide) (by decide) ?_
                                  refine Run.x_aloadN (q := 57) X6 hx (hb hby d7_56) rfl rfl rfl ?_
                                  replace F_this_quantisation := F_this_quantisation.other W6 (Or.inl ne_this_qa)
                                  obtain ⟨T9, X9, e9, st9⟩ := getF X6 hx hZ hown (host := "") (Or.inl (hw _ (List.mem_of_getElem? (i := 22) rfl))) Via.refl e6 F_this_quantisation (g := (mkF m 57 #[.val (.ref this), .val (.ref seg), .val (.int (324 : Int32)), .val (.int y3), .val (.int (y3 &&& (15 : Int32)))] [(.ref this)])) rfl rfl (hb hby d7_57)
                                  refine Run.st st9 ?_
                                  show Run p e below s _ _ _ (T9.setTop (mkF m 60 #[.val (.ref this), .val (.ref seg), .val (.int (324 : Int32)), .val (.int y3), .val (.int (y3 &&& (15 : Int32)))] [(.ref qa)]))
                                  refine Run.x_iload (q := 62) X9 hx (hb hby d7_60) rfl rfl ?_
                                  refine Run.x_iconst (q := 63) X9 hx (hb hby d7_62) (z := (1 : Int32)) rfl rfl ?_
                                  have hj63 := own_n15 y3
                                  obtain ⟨iq3, hiq3⟩ : ∃ i : Nat, (y3 &&& (15 : Int32)).toInt = i := ⟨(y3 &&& (15 : Int32)).toInt.toNat, by omega⟩
                                  have hib3 : iq3 < (((([(.int (0 : Int32)), (.int (0 : Int32)), (.int (0 : Int32)), (.int (0 : Int32))].set iq0 (Value.int (1 : Int32))).set iq1 (Value.int (1 : Int32))).set iq2 (Value.int (1 : Int32))) : List Value).length := by
                                    have q4 := hc45'''; rw [lt32] at q4; have k4 : (4 : Int32).toInt = 4 := rfl; have hh := hiq3; simp only [List.length_set, List.length_cons, List.length_nil]; omega
                                  refine Run.stZ X9 hx hZ e9 A_qa (i := iq3) hiq3 hib3 (z' := (1 : Int32)) (by decide) (hb hby d7_63) ?_
                                  intro T10 h10 X10 e10 W10 A10
                                  replace A_qa : Ars Z h10 qa .boolean (((([(.int (0 : Int32)), (.int (0 : Int32)), (.int (0 : Int32)), (.int (0 : Int32))].set iq0 (Value.int (1 : Int32))).set iq1 (Value.int (1 : Int32))).set iq2 (Value.int (1 : Int32))).set iq3 (Value.int (1 : Int32))) := A10
                                  have N10 := Fr.snoc X10 N6 g_qa
                                  have Z10 : n0 ≤ h10.size := Nat.le_trans Z6 (Nat.le_of_eq W10.size.symm)
                                  show Run p e below s _ _ _ (T10.setTop (mkF m 64 #[.val (.ref this), .val (.ref seg), .val (.int (324 : Int32)), .val (.int y3), .val (.int (y3 &&& (15 : Int32)))] []))
                                  refine Run.x_goto (q := 2) X10 hx (hb hby d7_64) (by decide) (by decide) ?_
                                  refine Run.x_iloadN (q := 3) X10 hx (hb hby d7_2) rfl rfl ?_
                                  refine Run.x_aloadN (q := 4) X10 hx (hb hby d7_3) rfl rfl rfl ?_
                                  replace A_seg := A_seg.other W10 ne_seg_qa
                                  refine Run.alen X10 hx hZ e10 A_seg (z := ll) hln (hb hby d7_4) ?_
                                  show Run p e below s _ _ _ (T10.setTop (mkF m 5 #[.val (.ref this), .val (.ref seg), .val (.int (324 : Int32)), .val (.int y3), .val (.int (y3 &&& (15 : Int32)))] [(.int ll), (.int (324 : Int32))]))
                                  have hend : ¬ (324 : Int32) < ll := by rw [lt32]; have k : (324 : Int32).toInt = 324 := rfl; omega
                                  refine Run.x_icmpYes (q := 67) X10 hx (hb hby d7_5) (flt hend).2.1 (by decide) (by decide) ?_
                                  refine Run.x_iconst (q := 68) X10 hx (hb hby d7_67) (z := (1 : Int32)) rfl rfl ?_
                                  replace E_this := (((E_this.wr W2).wr W4).wr W6).wr W10
                                  replace F_this_quantisation := F_this_quantisation.other W10 (Or.inl ne_this_qa)
                                  refine Run.retN X10 hx hlk e10 (t := .boolean) hret (by simp) (z' := (1 : Int32)) (by decide) (hb hby d7_68) (by decide) (by decide) ?_
                                  have kk : (0 : Int32).toInt = 0 ∧ (65 : Int32).toInt = 65 ∧ (130 : Int32).toInt = 130 ∧ (195 : Int32).toInt = 195 ∧ (324 : Int32).toInt = 324 ∧ (4 : Int32).toInt = 4 := by decide
                                  have hle3 : (324 : Int) ≤ ll.toInt := by have q := hc51'''; rw [lt32] at q; omega
                                  have hle2 : (195 : Int) ≤ ll.toInt := by have q := hc51''; rw [lt32] at q; omega
                                  have hle1 : (130 : Int) ≤ ll.toInt := by have q := hc51'; rw [lt32] at q; omega
                                  have hle0 : (65 : Int) ≤ ll.toInt := by have q := hc51; rw [lt32] at q; omega
                                  exact PureK_mk ((own_b1 (own_rd_step ((own_n4 y0).mp hc45) (by rw [hs0]; rfl : (0 : Int) + 1 + own_sz y0 = 65) hle0 (own_rd_step ((own_n4 y1).mp hc45') (by rw [hs1]; rfl : (65 : Int) + 1 + own_sz y1 = 130) hle1 (own_rd_step ((own_n4 y2).mp hc45'') (by rw [hs2]; rfl : (130 : Int) + 1 + own_sz y2 = 195) hle2 (own_rd_step ((own_n4 y3).mp hc45''') (by rw [hs3]; rfl : (195 : Int) + 1 + own_sz y3 = 324) hle3 own_rd0))))).symm) N10
                              · skip
                                refine Run.x_icmpYes (q := 54) X6 hx (hb hby d7_45) (flt hc45''').2.1 (by decide) (by decide) ?_
                                refine Run.x_iconst (q := 55) X6 hx (hb hby d7_54) (z := (0 : Int32)) rfl rfl ?_
                                replace E_this := ((E_this.wr W2).wr W4).wr W6
                                replace F_this_quantisation := F_this_quantisation.other W6 (Or.inl ne_this_qa)
                                refine Run.retN X6 hx hlk e6 (t := .boolean) hret (by simp) (z' := (0 : Int32)) (by decide) (hb hby d7_55) (by decide) (by decide) ?_
                                have kk : (0 : Int32).toInt = 0 ∧ (65 : Int32).toInt = 65 ∧ (130 : Int32).toInt = 130 ∧ (195 : Int32).toInt = 195 ∧ (324 : Int32).toInt = 324 ∧ (4 : Int32).toInt = 4 := by decide
                                have hne3 : ¬ (195 : Int) = ll.toInt := by have q := hc5'''; rw [lt32] at q; omega
                                have hne2 : ¬ (130 : Int) = ll.toInt := by have q := hc5''; rw [lt32] at q; omega
                                have hne1 : ¬ (65 : Int) = ll.toInt := by have q := hc5'; rw [lt32] at q; omega
                                have hne0 : ¬ (0 : Int) = ll.toInt := by have q := hc5; rw [lt32] at q; omega
                                exact PureK_mk ((own_b0 (own_rd_bk hne0 (by rw [hs0]; rfl : (0 : Int) + 1 + own_sz y0 = 65) (own_rd_bk hne1 (by rw [hs1]; rfl : (65 : Int) + 1 + own_sz y1 = 130) (own_rd_bk hne2 (by rw [hs2]; rfl : (130 : Int) + 1 + own_sz y2 = 195) (own_rd_no1 hne3 (mt (own_n4 y3).mpr hc45''')))))).symm) N6
                          · skip
                            refine Run.x_icmpYes (q := 67) X6 hx (hb hby d7_5) (flt hc5''').2.1 (by decide) (by decide) ?_
                            refine Run.x_iconst (q := 68) X6 hx (hb hby d7_67) (z := (1 : Int32)) rfl rfl ?_
                            replace E_this := ((E_this.wr W2).wr W4).wr W6
                            replace F_this_quantisation := F_this_quantisation.other W6 (Or.inl ne_this_qa)
                            refine Run.retN X6 hx hlk e6 (t := .boolean) hret (by simp) (z' := (1 : Int32)) (by decide) (hb hby d7_68) (by decide) (by decide) ?_
                            have kk : (0 : Int32).toInt = 0 ∧ (65 : Int32).toInt = 65 ∧ (130 : Int32).toInt = 130 ∧ (195 : Int32).toInt = 195 ∧ (4 : Int32).toInt = 4 := by decide
                            have heq : (195 : Int) = ll.toInt := by have q := hc5'''; rw [lt32] at q; have q2 := hc51''; rw [lt32] at q2; omega
                            have hle2 : (195 : Int) ≤ ll.toInt := by have q := hc51''; rw [lt32] at q; omega
                            have hle1 : (130 : Int) ≤ ll.toInt := by have q := hc51'; rw [lt32] at q; omega
                            have hle0 : (65 : Int) ≤ ll.toInt := by have q := hc51; rw [lt32] at q; omega
                            exact PureK_mk ((own_b1 (own_rd_step ((own_n4 y0).mp hc45) (by rw [hs0]; rfl : (0 : Int) + 1 + own_sz y0 = 65) hle0 (own_rd_step ((own_n4 y1).mp hc45') (by rw [hs1]; rfl : (65 : Int) + 1 + own_sz y1 = 130) hle1 (own_rd_step ((own_n4 y2).mp hc45'') (by rw [hs2]; rfl : (130 : Int) + 1 + own_sz y2 = 195) hle2 (own_rd_eq heq))))).symm) N6
                      · skip
                        refine Run.x_icmpYes (q := 54) X4 hx (hb hby d7_45) (flt hc45'').2.1 (by decide) (by decide) ?_
                        refine Run.x_iconst (q := 55) X4 hx (hb hby d7_54) (z := (0 : Int32)) rfl rfl ?_
                        replace E_this := (E_this.wr W2).wr W4
                        replace F_this_quantisation := F_this_quantisation.other W4 (Or.inl ne_this_qa)
                        refine Run.retN X4 hx hlk e4 (t := .boolean) hret (by simp) (z' := (0 : Int32)) (by decide) (hb hby d7_55) (by decide) (by decide) ?_
                        have kk : (0 : Int32).toInt = 0 ∧ (65 : Int32).toInt = 65 ∧ (130 : Int32).toInt = 130 ∧ (195 : Int32).toInt = 195 ∧ (4 : Int32).toInt = 4 := by decide
                        have hne2 : ¬ (130 : Int) = ll.toInt := by have q := hc5''; rw [lt32] at q; omega
                        have hne1 : ¬ (65 : Int) = ll.toInt := by have q := hc5'; rw [lt32] at q; omega
                        have hne0 : ¬ (0 : Int) = ll.toInt := by have q := hc5; rw [lt32] at q; omega
                        exact PureK_mk ((own_b0 (own_rd_bk hne0 (by rw [hs0]; rfl : (0 : Int) + 1 + own_sz y0 = 65) (own_rd_bk hne1 (by rw [hs1]; rfl : (65 : Int) + 1 + own_sz y1 = 130) (own_rd_no1 hne2 (mt (own_n4 y2).mpr hc45''))))).symm) N4
                    · have hs2 := own_s16' hk2
                      refine Run.x_ifYes (q := 37) X4 hx (hb hby d7_29) ((if0 _ _).trans (feq (mt (own_sh4 hy2.1 hy2.2).mp hk2)).2) (by decide) (by decide) ?_
                      refine Run.x_sipush (q := 40) X4 hx (hb hby d7_37) (z := (128 : Int32)) rfl rfl ?_
                      refine Run.x_iadd (q := 41) X4 hx (hb hby d7_40) (z := (259 : Int32)) (by decide) rfl ?_
                      refine Run.x_istoreN (q := 42) X4 hx #[.val (.ref this), .val (.ref seg), .val (.int (259 : Int32)), .val (.int y2), .val (.int (y2 &&& (15 : Int32)))] (hb hby d7_41) rfl rfl ?_
                      refine Run.x_iload (q := 44) X4 hx (hb hby d7_42) rfl rfl ?_
                      refine Run.x_iconst (q := 45) X4 hx (hb hby d7_44) (z := (4 : Int32)) rfl rfl ?_
                      by_cases hc45'' : (y2 &&& (15 : Int32)) < (4 : Int32)
                      · skip
                        refine Run.x_icmpNo (q := 48) X4 hx (hb hby d7_45) (tlt hc45'').2.1 rfl ?_
                        refine Run.x_iloadN (q := 49) X4 hx (hb hby d7_48) rfl rfl ?_
                        refine Run.x_aloadN (q := 50) X4 hx (hb hby d7_49) rfl rfl rfl ?_
                        refine Run.alen X4 hx hZ e4 A_seg (z := ll) hln (hb hby d7_50) ?_
                        show Run p e below s _ _ _ (T4.setTop (mkF m 51 #[.val (.ref this), .val (.ref seg), .val (.int (259 : Int32)), .val (.int y2), .val (.int (y2 &&& (15 : Int32)))] [(.int ll), (.int (259 : Int32))]))
                        by_cases hc51'' : ll < (259 : Int32)
                        · skip
                          refine Run.x_icmpNo (q := 54) X4 hx (hb hby d7_51) (tlt hc51'').2.2.2 rfl ?_
                          refine Run.x_iconst (q := 55) X4 hx (hb hby d7_54) (z := (0 : Int32)) rfl rfl ?_
                          replace E_this := (E_this.wr W2).wr W4
                          replace F_this_quantisation := F_this_quantisation.other W4 (Or.inl ne_this_qa)
                          refine Run.retN X4 hx hlk e4 (t := .boolean) hret (by simp) (z' := (0 : Int32)) (by decide) (hb hby d7_55) (by decide) (by decide) ?_
                          have kk : (0 : Int32).toInt = 0 ∧ (65 : Int32).toInt = 65 ∧ (130 : Int32).toInt = 130 ∧ (259 : Int32).toInt = 259 ∧ (4 : Int32).toInt = 4 := by decide
                          have hgt : ¬ (259 : Int) ≤ ll.toInt := by have q := hc51''; rw [lt32] at q; omega
                          have hne2 : ¬ (130 : Int) = ll.toInt := by have q := hc5''; rw [lt32] at q; omega
                          have hne1 : ¬ (65 : Int) = ll.toInt := by have q := hc5'; rw [lt32] at q; omega
                          have hne0 : ¬ (0 : Int) = ll.toInt := by have q := hc5; rw [lt32] at q; omega
                          exact PureK_mk ((own_b0 (own_rd_bk hne0 (by rw [hs0]; rfl : (0 : Int) + 1 + own_sz y0 = 65) (own_rd_bk hne1 (by rw [hs1]; rfl : (65 : Int) + 1 + own_sz y1 = 130) (own_rd_no2 hne2 (by rw [hs2]; rfl : (130 : Int) + 1 + own_sz y2 = 259) hgt)))).symm) N4
                        · skip
                          refine Run.x_icmpYes (q := 56) X4 hx (hb hby d7_51) (flt hc51'').2.2.2 (by decide) (by decide) ?_
                          refine Run.x_aloadN (q := 57) X4 hx (hb hby d7_56) rfl rfl rfl ?_
                          replace F_this_quantisation := F_this_quantisation.other W4 (Or.inl ne_this_qa)
                          obtain ⟨T11, X11, e11, st11⟩ := getF X4 hx hZ hown (host := "") (Or.inl (hw _ (List.mem_of_getElem? (i := 22) rfl))) Via.refl e4 F_this_quantisation (g := (mkF m 57 #[.val (.ref this), .val (.ref seg), .val (.int (259 : Int32)), .val (.int y2), .val (.int (y2 &&& (15 : Int32)))] [(.ref this)])) rfl rfl (hb hby d7_57)
                          refine Run.st st11 ?_
                          show Run p e below s _ _ _ (T11.setTop (mkF m 60 #[.val (.ref this), .val (.ref seg), .val (.int (259 : Int32)), .val (.int y2), .val (.int (y2 &&& (15 : Int32)))] [(.ref qa)]))
                          refine Run.x_iload (q := 62) X11 hx (hb hby d7_60) rfl rfl ?_
                          refine Run.x_iconst (q := 63) X11 hx (hb hby d7_62) (z := (1 : Int32)) rfl rfl ?_
                          have hj63 := own_n15 y2
                          obtain ⟨iq2, hiq2⟩ : ∃ i : Nat, (y2 &&& (15 : Int32)).toInt = i := ⟨(y2 &&& (15 : Int32)).toInt.toNat, by omega⟩
                          have hib2 : iq2 < ((([(.int (0 : Int32)), (.int (0 : Int32)), (.int (0 : Int32)), (.int (0 : Int32))].set iq0 (Value.int (1 : Int32))).set iq1 (Value.int (1 : Int32))) : List Value).length := by
                            have q4 := hc45''; rw [lt32] at q4; have k4 : (4 : Int32).toInt = 4 := rfl; have hh := hiq2; simp only [List.length_set, List.length_cons, List.length_nil]; omega
                          refine Run.stZ X11 hx hZ e11 A_qa (i := iq2) hiq2 hib2 (z' := (1 : Int32)) (by decide) (hb hby d7_63) ?_
                          intro T12 h12 X12 e12 W12 A12
                          replace A_qa : Ars Z h12 qa .boolean ((([(.int (0 : Int32)), (.int (0 : Int32)), (.int (0 : Int32)), (.int (0 : Int32))].set iq0 (Value.int (1 : Int32))).set iq1 (Value.int (1 : Int32))).set iq2 (Value.int (1 : Int32))) := A12
                          have N12 := Fr.snoc X12 N4 g_qa
                          have Z12 : n0 ≤ h12.size := Nat.le_trans Z4 (Nat.le_of_eq W12.size.symm)
                          show Run p e below s _ _ _ (T12.setTop (mkF m 64 #[.val (.ref this), .val (.ref seg), .val (.int (259 : Int32)), .val (.int y2), .val (.int (y2 &&& (15 : Int32)))] []))
                          refine Run.x_goto (q := 2) X12 hx (hb hby d7_64) (by decide) (by decide) ?_
                          refine Run.x_iloadN (q := 3) X12 hx (hb hby d7_2) rfl rfl ?_
                          refine Run.x_aloadN (q := 4) X12 hx (hb hby d7_3) rfl rfl rfl ?_
                          replace A_seg := A_seg.other W12 ne_seg_qa
                          refine Run.alen X12 hx hZ e12 A_seg (z := ll) hln (hb hby d7_4) ?_
                          show Run p e below s _ _ _ (T12.setTop (mkF m 5 #[.val (.ref this), .val (.ref seg), .val (.int (259 : Int32)), .val (.int y2), .val (.int (y2 &&& (15 : Int32)))] [(.int ll), (.int (259 : Int32))]))
                          by_cases hc5''' : (259 : Int32) < ll
                          · skip
                            refine Run.x_icmpNo (q := 8) X12 hx (hb hby d7_5) (tlt hc5''').2.1 rfl ?_
                            refine Run.x_aloadN (q := 9) X12 hx (hb hby d7_8) rfl rfl rfl ?_
                            refine Run.x_iloadN (q := 10) X12 hx (hb hby d7_9) rfl rfl ?_
                            refine Run.x_iinc (q := 13) X12 hx #[.val (.ref this), .val (.ref seg), .val (.int (260 : Int32)), .val (.int y2), .val (.int (y2 &&& (15 : Int32)))] (hb hby d7_10) rfl (z := (260 : Int32)) (by decide) rfl rfl ?_
                            have hlt3 : 259 < vs.length := by have q := hc5'''; rw [lt32] at q; have k : (259 : Int32).toInt = 259 := rfl; omega
                            have hel3 := hq3 259 (by rw [hs0, hs1, hs2]; rfl) hlt3
                            refine Run.ldB X12 hx hZ e12 A_seg (i := 259) (v := (.int y3.toInt8.toInt32)) (by decide) hel3 (hb hby d7_13) ?_
                            show Run p e below s _ _ _ (T12.setTop (mkF m 14 #[.val (.ref this), .val (.ref seg), .val (.int (260 : Int32)), .val (.int y2), .val (.int (y2 &&& (15 : Int32)))] [(.int y3.toInt8.toInt32)]))
                            refine Run.x_sipush (q := 17) X12 hx (hb hby d7_14) (z := (255 : Int32)) rfl rfl ?_
                            refine Run.x_iand (q := 18) X12 hx (hb hby d7_17) rfl rfl ?_
                            rw [own_back hy3.1 hy3.2]
                            show Run p e below s _ _ _ (T12.setTop (mkF m 18 #[.val (.ref this), .val (.ref seg), .val (.int (260 : Int32)), .val (.int y2), .val (.int (y2 &&& (15 : Int32)))] [(.int y3)]))
                            refine Run.x_istoreN (q := 19) X12 hx #[.val (.ref this), .val (.ref seg), .val (.int (260 : Int32)), .val (.int y3), .val (.int (y2 &&& (15 : Int32)))] (hb hby d7_18) rfl rfl ?_
                            refine Run.x_iloadN (q := 20) X12 hx (hb hby d7_19) rfl rfl ?_
                            refine Run.x_bipush (q := 22) X12 hx (hb hby d7_20) (z := (15 : Int32)) rfl rfl ?_
                            refine Run.x_iand (q := 23) X12 hx (hb hby d7_22) rfl rfl ?_
                            refine Run.x_istore (q := 25) X12 hx #[.val (.ref this), .val (.ref seg), .val (.int (260 : Int32)), .val (.int y3), .val (.int (y3 &&& (15 : Int32)))] (hb hby d7_23) rfl rfl ?_
                            refine Run.x_iloadN (q := 26) X12 hx (hb hby d7_25) rfl rfl ?_
                            refine Run.x_iloadN (q := 27) X12 hx (hb hby d7_26) rfl rfl ?_
                            refine Run.x_iconst (q := 28) X12 hx (hb hby d7_27) (z := (4 : Int32)) rfl rfl ?_
                            refine Run.x_ishr (q := 29) X12 hx (hb hby d7_28) rfl rfl ?_
                            by_cases hk3 : y3 < 16
                            · have hs3 := own_s16 hk3
                              refine Run.x_ifNo (q := 32) X12 hx (hb hby d7_29) ((if0 _ _).trans (teq ((own_sh4 hy3.1 hy3.2).mpr hk3)).2) rfl ?_
                              refine Run.x_bipush (q := 34) X12 hx (hb hby d7_32) (z := (64 : Int32)) rfl rfl ?_
                              refine Run.x_goto (q := 40) X12 hx (hb hby d7_34) (by decide) (by decide) ?_
                              refine Run.x_iadd (q := 41) X12 hx (hb hby d7_40) (z := (324 : Int32)) (by decide) rfl ?_
                              refine Run.x_istoreN (q := 42) X12 hx #[.val (.ref this), .val (.ref seg), .val (.int (324 : Int32)), .val (.int y3), .val (.int (y3 &&& (15 : Int32)))] (hb hby d7_41) rfl rfl ?_
                              refine Run.x_iload (q := 44) X12 hx (hb hby d7_42) rfl rfl ?_
                              refine Run.x_iconst (q := 45) X12 hx (hb hby d7_44) (z := (4 : Int32)) rfl rfl ?_
                              by_cases hc45''' : (y3 &&& (15 : Int32)) < (4 : Int32)
                              · skip
                                refine Run.x_icmpNo (q := 48) X12 hx (hb hby d7_45) (tlt hc45''').2.1 rfl ?_
                                refine Run.x_iloadN (q := 49) X12 hx (hb hby d7_48) rfl rfl ?_
                                refine Run.x_aloadN (q := 50) X12 hx (hb hby d7_49) rfl rfl rfl ?_
                                refine Run.alen X12 hx hZ e12 A_seg (z := ll) hln (hb hby d7_50) ?_
                                show Run p e below s _ _ _ (T12.setTop (mkF m 51 #[.val (.ref this), .val (.ref seg), .val (.int (324 : Int32)), .val (.int y3), .val (.int (y3 &&& (15 : Int32)))] [(.int ll), (.int (324 : Int32))]))
                                by_cases hc51''' : ll < (324 : Int32)
                                · skip
                                  refine Run.x_icmpNo (q := 54) X12 hx (hb hby d7_51) (tlt hc51''').2.2.2 rfl ?_
                                  refine Run.x_iconst (q := 55) X12 hx (hb hby d7_54) (z := (0 : Int32)) rfl rfl ?_
                                  replace E_this := ((E_this.wr W2).wr W4).wr W12
                                  replace F_this_quantisation := F_this_quantisation.other W12 (Or.inl ne_this_qa)
                                  refine Run.retN X12 hx hlk e12 (t := .boolean) hret (by simp) (z' := (0 : Int32)) (by decide) (hb hby d7_55) (by decide) (by decide) ?_
                                  have kk : (0 : Int32).toInt = 0 ∧ (65 : Int32).toInt = 65 ∧ (130 : Int32).toInt = 130 ∧ (259 : Int32).toInt = 259 ∧ (324 : Int32).toInt = 324 ∧ (4 : Int32).toInt = 4 := by decide
                                  have hgt : ¬ (324 : Int) ≤ ll.toInt := by have q := hc51'''; rw [lt32] at q; omega
                                  have hne3 : ¬ (259 : Int) = ll.toInt := by have q := hc5'''; rw [lt32] at q; omega
                                  have hne2 : ¬ (130 : Int) = ll.toInt := by have q := hc5''; rw [lt32] at q; omega
                                  have hne1 : ¬ (65 : Int) = ll.toInt := by have q := hc5'; rw [lt32] at q; omega
                                  have hne0 : ¬ (0 : Int) = ll.toInt := by have q := hc5; rw [lt32] at q; omega
                                  exact PureK_mk ((own_b0 (own_rd_bk hne0 (by rw [hs0]; rfl : (0 : Int) + 1 + own_sz y0 = 65) (own_rd_bk hne1 (by rw [hs1]; rfl : (65 : Int) + 1 + own_sz y1 = 130) (own_rd_bk hne2 (by rw [hs2]; rfl : (130 : Int) + 1 + own_sz y2 = 259) (own_rd_no2 hne3 (by rw [hs3]; rfl : (259 : Int) + 1 + own_sz y3 = 324) hgt))))).symm) N12
                                · skip
                                  refine Run.x_icmpYes (q := 56) X12 hx (hb hby d7_51) (flt hc51''').2.2.2 (by decide) (by decide) ?_
                                  refine Run.x_aloadN (q := 57) X12 hx (hb hby d7_56) rfl rfl rfl ?_
                                  replace F_this_quantisation := F_this_quantisation.other W12 (Or.inl ne_this_qa)
                                  obtain ⟨T13, X13, e13, st13⟩ := getF X12 hx hZ hown (host := "") (Or.inl (hw _ (List.mem_of_getElem? (i := 22) rfl))) Via.refl e12 F_this_quantisation (g := (mkF m 57 #[.val (.ref this), .val (.ref seg), .val (.int (324 : Int32)), .val (.int y3), .val (.int (y3 &&& (15 : Int32)))] [(.ref this)])) rfl rfl (hb hby d7_57)
                                  refine Run.st st13 ?_
                                  show Run p e below s _ _ _ (T13.setTop (mkF m 60 #[.val (.ref this), .val (.ref seg), .val (.int (324 : Int32)), .val (.int y3), .val (.int (y3 &&& (15 : Int32)))] [(.ref qa)]))
                                  refine Run.x_iload (q := 62) X13 hx (hb hby d7_60) rfl rfl ?_
                                  refine Run.x_iconst (q := 63) X13 hx (hb hby d7_62) (z := (1 : Int32)) rfl rfl ?_
                                  have hj63 := own_n15 y3
                                  obtain ⟨iq3, hiq3⟩ : ∃ i : Nat, (y3 &&& (15 : Int32)).toInt = i := ⟨(y3 &&& (15 : Int32)).toInt.toNat, by omega⟩
                                  have hib3 : iq3 < (((([(.int (0 : Int32)), (.int (0 : Int32)), (.int (0 : Int32)), (.int (0 : Int32))].set iq0 (Value.int (1 : Int32))).set iq1 (Value.int (1 : Int32))).set iq2 (Value.int (1 : Int32))) : List Value).length := by
                                    have q4 := hc45'''; rw [lt32] at q4; have k4 : (4 : Int32).toInt = 4 := rfl; have hh := hiq3; simp only [List.length_set, List.length_cons, List.length_nil]; omega
                                  refine Run.stZ X13 hx hZ e13 A_qa (i := iq3) hiq3 hib3 (z' := (1 : Int32)) (by decide) (hb hby d7_63) ?_
                                  intro T14 h14 X14 e14 W14 A14
                                  replace A_qa : Ars Z h14 qa .boolean (((([(.int (0 : Int32)), (.int (0 : Int32)), (.int (0 : Int32)), (.int (0 : Int32))].set iq0 (Value.int (1 : Int32))).set iq1 (Value.int (1 : Int32))).set iq2 (Value.int (1 : Int32))).set iq3 (Value.int (1 : Int32))) := A14
                                  have N14 := Fr.snoc X14 N12 g_qa
                                  have Z14 : n0 ≤ h14.size := Nat.le_trans Z12 (Nat.le_of_eq W14.size.symm)
                                  show Run p e below s _ _ _ (T14.setTop (mkF m 64 #[.val (.ref this), .val (.ref seg), .val (.int (324 : Int32)), .val (.int y3), .val (.int (y3 &&& (15 : Int32)))] []))
                                  refine Run.x_goto (q := 2) X14 hx (hb hby d7_64) (by decide) (by decide) ?_
                                  refine Run.x_iloadN (q := 3) X14 hx (hb hby d7_2) rfl rfl ?_
                                  refine Run.x_aloadN (q := 4) X14 hx (hb hby d7_3) rfl rfl rfl ?_
                                  replace A_seg := A_seg.other W14 ne_seg_qa
                                  refine Run.alen X14 hx hZ e14 A_seg (z := ll) hln (hb hby d7_4) ?_
                                  show Run p e below s _ _ _ (T14.setTop (mkF m 5 #[.val (.ref this), .val (.ref seg), .val (.int (324 : Int32)), .val (.int y3), .val (.int (y3 &&& (15 : Int32)))] [(.int ll), (.int (324 : Int32))]))
                                  have hend : ¬ (324 : Int32) < ll := by rw [lt32]; have k : (324 : Int32).toInt = 324 := rfl; omega
                                  refine Run.x_icmpYes (q := 67) X14 hx (hb hby d7_5) (flt hend).2.1 (by decide) (by decide) ?_
                                  refine Run.x_iconst (q := 68) X14 hx (hb hby d7_67) (z := (1 : Int32)) rfl rfl ?_
                                  replace E_this := (((E_this.wr W2).wr W4).wr W12).wr W14
                                  replace F_this_quantisation := F_this_quantisation.other W14 (Or.inl ne_this_qa)
                                  refine Run.retN X14 hx hlk e14 (t := .boolean) hret (by simp) (z' := (1 : Int32)) (by decide) (hb hby d7_68) (by decide) (by decide) ?_
                                  have kk : (0 : Int32).toInt = 0 ∧ (65 : Int32).toInt = 65 ∧ (130 : Int32).toInt = 130 ∧ (259 : Int32).toInt = 259 ∧ (324 : Int32).toInt = 324 ∧ (4 : Int32).toInt = 4 := by decide
                                  have hle3 : (324 : Int) ≤ ll.toInt := by have q := hc51'''; rw [lt32] at q; omega
                                  have hle2 : (259 : Int) ≤ ll.toInt := by have q := hc51''; rw [lt32] at q; omega
                                  have hle1 : (130 : Int) ≤ ll.toInt := by have q := hc51'; rw [lt32] at q; omega
                                  have hle0 : (65 : Int) ≤ ll.toInt := by have q := hc51; rw [lt32] at q; omega
                                  exact PureK_mk ((own_b1 (own_rd_step ((own_n4 y0).mp hc45) (by rw [hs0]; rfl : (0 : Int) + 1 + own_sz y0 = 65) hle0 (own_rd_step ((own_n4 y1).mp hc45') (by rw [hs1]; rfl : (65 : Int) + 1 + own_sz y1 = 130) hle1 (own_rd_step ((own_n4 y2).mp hc45'') (by rw [hs2]; rfl : (130 : Int) + 1 + own_sz y2 = 259) hle2 (own_rd_step ((own_n4 y3).mp hc45''') (by rw [hs3]; rfl : (259 : Int) + 1 + own_sz y3 = 324) hle3 own_rd0))))).symm) N14
                              · skip
                                refine Run.x_icmpYes (q := 54) X12 hx (hb hby d7_45) (flt hc45''').2.1 (by decide) (by decide) ?_
                                refine Run.x_iconst (q := 55) X12 hx (hb hby d7_54) (z := (0 : Int32)) rfl rfl ?_
                                replace E_this := ((E_this.wr W2).wr W4).wr W12
                                replace F_this_quantisation := F_this_quantisation.other W12 (Or.inl ne_this_qa)
                                refine Run.retN X12 hx hlk e12 (t := .boolean) hret (by simp) (z' := (0 : Int32)) (by decide) (hb hby d7_55) (by decide) (by decide) ?_
                                have kk : (0 : Int32).toInt = 0 ∧ (65 : Int32).toInt = 65 ∧ (130 : Int32).toInt = 130 ∧ (259 : Int32).toInt = 259 ∧ (324 : Int32).toInt = 324 ∧ (4 : Int32).toInt = 4 := by decide
                                have hne3 : ¬ (259 : Int) = ll.toInt := by have q := hc5'''; rw [lt32] at q; omega
                                have hne2 : ¬ (130 : Int) = ll.toInt := by have q := hc5''; rw [lt32] at q; omega
                                have hne1 : ¬ (65 : Int) = ll.toInt := by have q := hc5'; rw [lt32] at q; omega
                                have hne0 : ¬ (0 : Int) = ll.toInt := by have q := hc5; rw [lt32] at q; omega
                                exact PureK_mk ((own_b0 (own_rd_bk hne0 (by rw [hs0]; rfl : (0 : Int) + 1 + own_sz y0 = 65) (own_rd_bk hne1 (by rw [hs1]; rfl : (65 : Int) + 1 + own_sz y1 = 130) (own_rd_bk hne2 (by rw [hs2]; rfl : (130 : Int) + 1 + own_sz y2 = 259) (own_rd_no1 hne3 (mt (own_n4 y3).mpr hc45''')))))).symm) N12
                            · have hs3 := own_s16' hk3
                              refine Run.x_ifYes (q := 37) X12 hx (hb hby d7_29) ((if0 _ _).trans (feq (mt (own_sh4 hy3.1 hy3.2).mp hk3)).2) (by decide) (by decide) ?_
                              refine Run.x_sipush (q := 40) X12 hx (hb hby d7_37) (z := (128 : Int32)) rfl rfl ?_
                              refine Run.x_iadd (q := 41) X12 hx (hb hby d7_40) (z := (388 : Int32)) (by decide) rfl ?_
                              refine Run.x_istoreN (q := 42) X12 hx #[.val (.ref this), .val (.ref seg), .val (.int (388 : Int32)), .val (.int y3), .val (.int (y3 &&& (15 : Int32)))] (hb hby d7_41) rfl rfl ?_
                              refine Run.x_iload (q := 44) X12 hx (hb hby d7_42) rfl rfl ?_
                              refine Run.x_iconst (q := 45) X12 hx (hb hby d7_44) (z := (4 : Int32)) rfl rfl ?_
                              by_cases hc45''' : (y3 &&& (15 : Int32)) < (4 : Int32)
                              · skip
                                refine Run.x_icmpNo (q := 48) X12 hx (hb hby d7_45) (tlt hc45''').2.1 rfl ?_
                                refine Run.x_iloadN (q := 49) X12 hx (hb hby d7_48) rfl rfl ?_
                                refine Run.x_aloadN (q := 50) X12 hx (hb hby d7_49) rfl rfl rfl ?_
                                refine Run.alen X12 hx hZ e12 A_seg (z := ll) hln (hb hby d7_50) ?_
                                show Run p e below s _ _ _ (T12.setTop (mkF m 51 #[.val (.ref this), .val (.ref seg), .val (.int (388 : Int32)), .val (.int y3), .val (.int (y3 &&& (15 : Int32)))] [(.int ll), (.int (388 : Int32))]))
                                by_cases hc51''' : ll < (388 : Int32)
                                · skip
                                  refine Run.x_icmpNo (q := 54) X12 hx (hb hby d7_51) (tlt hc51''').2.2.2 rfl ?_
                                  refine Run.x_iconst (q := 55) X12 hx (hb hby d7_54) (z := (0 : Int32)) rfl rfl ?_
                                  replace E_this := ((E_this.wr W2).wr W4).wr W12
                                  replace F_this_quantisation := F_this_quantisation.other W12 (Or.inl ne_this_qa)
                                  refine Run.retN X12 hx hlk e12 (t := .boolean) hret (by simp) (z' := (0 : Int32)) (by decide) (hb hby d7_55) (by decide) (by decide) ?_
                                  have kk : (0 : Int32).toInt = 0 ∧ (65 : Int32).toInt = 65 ∧ (130 : Int32).toInt = 130 ∧ (259 : Int32).toInt = 259 ∧ (388 : Int32).toInt = 388 ∧ (4 : Int32).toInt = 4 := by decide
                                  have hgt : ¬ (388 : Int) ≤ ll.toInt := by have q := hc51'''; rw [lt32] at q; omega
                                  have hne3 : ¬ (259 : Int) = ll.toInt := by have q := hc5'''; rw [lt32] at q; omega
                                  have hne2 : ¬ (130 : Int) = ll.toInt := by have q := hc5''; rw [lt32] at q; omega
                                  have hne1 : ¬ (65 : Int) = ll.toInt := by have q := hc5'; rw [lt32] at q; omega
                                  have hne0 : ¬ (0 : Int) = ll.toInt := by have q := hc5; rw [lt32] at q; omega
                                  exact PureK_mk ((own_b0 (own_rd_bk hne0 (by rw [hs0]; rfl : (0 : Int) + 1 + own_sz y0 = 65) (own_rd_bk hne1 (by rw [hs1]; rfl : (65 : Int) + 1 + own_sz y1 = 130) (own_rd_bk hne2 (by rw [hs2]; rfl : (130 : Int) + 1 + own_sz y2 = 259) (own_rd_no2 hne3 (by rw [hs3]; rfl : (259 : Int) + 1 + own_sz y3 = 388) hgt))))).symm) N12
                                · skip
                                  refine Run.x_icmpYes (q := 56) X12 hx (hb hby d7_51) (flt hc51''').2.2.2 (by decide) (by decide) ?_
                                  refine Run.x_aloadN (q := 57) X12 hx (hb hby d7_56) rfl rfl rfl ?_
                                  replace F_this_quantisation := F_this_quantisation.other W12 (Or.inl ne_this_qa)
                                  obtain ⟨T15, X15, e15, st15⟩ := getF X12 hx hZ hown (host := "") (Or.inl (hw _ (List.mem_of_getElem? (i := 22) rfl))) Via.refl e12 F_this_quantisation (g := (mkF m 57 #[.val (.ref this), .val (.ref seg), .val (.int (388 : Int32)), .val (.int y3), .val (.int (y3 &&& (15 : Int32)))] [(.ref this)])) rfl rfl (hb hby d7_57)
                                  refine Run.st st15 ?_
                                  show Run p e below s _ _ _ (T15.setTop (mkF m 60 #[.val (.ref this), .val (.ref seg), .val (.int (388 : Int32)), .val (.int y3), .val (.int (y3 &&& (15 : Int32)))] [(.ref qa)]))
                                  refine Run.x_iload (q := 62) X15 hx (hb hby d7_60) rfl rfl ?_
                                  refine Run.x_iconst (q := 63) X15 hx (hb hby d7_62) (z := (1 : Int32)) rfl rfl ?_
                                  have hj63 := own_n15 y3
                                  obtain ⟨iq3, hiq3⟩ : ∃ i : Nat, (y3 &&& (15 : Int32)).toInt = i := ⟨(y3 &&& (15 : Int32)).toInt.toNat, by omega⟩
                                  have hib3 : iq3 < (((([(.int (0 : Int32)), (.int (0 : Int32)), (.int (0 : Int32)), (.int (0 : Int32))].set iq0 (Value.int (1 : Int32))).set iq1 (Value.int (1 : Int32))).set iq2 (Value.int (1 : Int32))) : List Value).length := by
                                    have q4 := hc45'''; rw [lt32] at q4; have k4 : (4 : Int32).toInt = 4 := rfl; have hh := hiq3; simp only [List.length_set, List.length_cons, List.length_nil]; omega
                                  refine Run.stZ X15 hx hZ e15 A_qa (i := iq3) hiq3 hib3 (z' := (1 : Int32)) (by decide) (hb hby d7_63) ?_
                                  intro T16 h16 X16 e16 W16 A16
                                  replace A_qa : Ars Z h16 qa .boolean (((([(.int (0 : Int32)), (.int (0 : Int32)), (.int (0 : Int32)), (.int (0 : Int32))].set iq0 (Value.int (1 : Int32))).set iq1 (Value.int (1 : Int32))).set iq2 (Value.int (1 : Int32))).set iq3 (Value.int (1 : Int32))) := A16
                                  have N16 := Fr.snoc X16 N12 g_qa
                                  have Z16 : n0 ≤ h16.size := Nat.le_trans Z12 (Nat.le_of_eq W16.size.symm)
                                  show Run p e below s _ _ _ (T16.setTop (mkF m 64 #[.val (.ref this), .val (.ref seg), .val (.int (388 : Int32)), .val (.int y3), .val (.int (y3 &&& (15 : Int32)))] []))
                                  refine Run.x_goto (q := 2) X16 hx (hb hby d7_64) (by decide) (by decide) ?_
                                  refine Run.x_iloadN (q := 3) X16 hx (hb hby d7_2) rfl rfl ?_
                                  refine Run.x_aloadN (q := 4) X16 hx (hb hby d7_3) rfl rfl rfl ?_
                                  replace A_seg := A_seg.other W16 ne_seg_qa
                                  refine Run.alen X16 hx hZ e16 A_seg (z := ll) hln (hb hby d7_4) ?_
                                  show Run p e below s _ _ _ (T16.setTop (mkF m 5 #[.val (.ref this), .val (.ref seg), .val (.int (388 : Int32)), .val (.int y3), .val (.int (y3 &&& (15 : Int32)))] [(.int ll), (.int (388 : Int32))]))
                                  have hend : ¬ (388 : Int32) < ll := by rw [lt32]; have k : (388 : Int32).toInt = 388 := rfl; omega
                                  refine Run.x_icmpYes (q := 67) X16 hx (hb hby d7_5) (flt hend).2.1 (by decide) (by decide) ?_
                                  refine Run.x_iconst (q := 68) X16 hx (hb hby d7_67) (z := (1 : Int32)) rfl rfl ?_
                                  replace E_this := (((E_this.wr W2).wr W4).wr W12).wr W16
                                  replace F_this_quantisation := F_this_quantisation.other W16 (Or.inl ne_this_qa)
                                  refine Run.retN X16 hx hlk e16 (t := .boolean) hret (by simp) (z' := (1 : Int32)) (by decide) (hb hby d7_68) (by decide) (by decide) ?_
                                  have kk : (0 : Int32).toInt = 0 ∧ (65 : Int32).toInt = 65 ∧ (130 : Int32).toInt = 130 ∧ (259 : Int32).toInt = 259 ∧ (388 : Int32).toInt = 388 ∧ (4 : Int32).toInt = 4 := by decide
                                  have hle3 : (388 : Int) ≤ ll.toInt := by have q := hc51'''; rw [lt32] at q; omega
                                  have hle2 : (259 : Int) ≤ ll.toInt := by have q := hc51''; rw [lt32] at q; omega
                                  have hle1 : (130 : Int) ≤ ll.toInt := by have q := hc51'; rw [lt32] at q; omega
                                  have hle0 : (65 : Int) ≤ ll.toInt := by have q := hc51; rw [lt32] at q; omega
                                  exact PureK_mk ((own_b1 (own_rd_step ((own_n4 y0).mp hc45) (by rw [hs0]; rfl : (0 : Int) + 1 + own_sz y0 = 65) hle0 (own_rd_step ((own_n4 y1).mp hc45') (by rw [hs1]; rfl : (65 : Int) + 1 + own_sz y1 = 130) hle1 (own_rd_step ((own_n4 y2).mp hc45'') (by rw [hs2]; rfl : (130 : Int) + 1 + own_sz y2 = 259) hle2 (own_rd_step ((own_n4 y3).mp hc45''') (by rw [hs3]; rfl : (259 : Int) + 1 + own_sz y3 = 388) hle3 own_rd0))))).symm) N16
                              · skip
                                refine Run.x_icmpYes (q := 54) X12 hx (hb hby d7_45) (flt hc45''').2.1 (by decide) (by decide) ?_
                                refine Run.x_iconst (q := 55) X12 hx (hb hby d7_54) (z := (0 : Int32)) rfl rfl ?_
                                replace E_this := ((E_this.wr W2).wr W4).wr W12
                                replace F_this_quantisation := F_this_quantisation.other W12 (Or.inl ne_this_qa)
                                refine Run.retN X12 hx hlk e12 (t := .boolean) hret (by simp) (z' := (0 : Int32)) (by decide) (hb hby d7_55) (by decide) (by decide) ?_
                                have kk : (0 : Int32).toInt = 0 ∧ (65 : Int32).toInt = 65 ∧ (130 : Int32).toInt = 130 ∧ (259 : Int32).toInt = 259 ∧ (388 : Int32).toInt = 388 ∧ (4 : Int32).toInt = 4 := by decide
                                have hne3 : ¬ (259 : Int) = ll.toInt := by have q := hc5'''; rw [lt32] at q; omega
                                have hne2 : ¬ (130 : Int) = ll.toInt := by have q := hc5''; rw [lt32] at q; omega
                                have hne1 : ¬ (65 : Int) = ll.toInt := by have q := hc5'; rw [lt32] at q; omega
                                have hne0 : ¬ (0 : Int) = ll.toInt := by have q := hc5; rw [lt32] at q; omega
                                exact PureK_mk ((own_b0 (own_rd_bk hne0 (by rw [hs0]; rfl : (0 : Int) + 1 + own_sz y0 = 65) (own_rd_bk hne1 (by rw [hs1]; rfl : (65 : Int) + 1 + own_sz y1 = 130) (own_rd_bk hne2 (by rw [hs2]; rfl : (130 : Int) + 1 + own_sz y2 = 259) (own_rd_no1 hne3 (mt (own_n4 y3).mpr hc45''')))))).symm) N12
                          · skip
                            refine Run.x_icmpYes (q := 67) X12 hx (hb hby d7_5) (flt hc5''').2.1 (by decide) (by decide) ?_
                            refine Run.x_iconst (q := 68) X12 hx (hb hby d7_67) (z := (1 : Int32)) rfl rfl ?_
                            replace E_this := ((E_this.wr W2).wr W4).wr W12
                            replace F_this_quantisation := F_this_quantisation.other W12 (Or.inl ne_this_qa)
                            refine Run.retN X12 hx hlk e12 (t := .boolean) hret (by simp) (z' := (1 : Int32)) (by decide) (hb hby d7_68) (by decide) (by decide) ?_
                            have kk : (0 : Int32).toInt = 0 ∧ (65 : Int32).toInt = 65 ∧ (130 : Int32).toInt = 130 ∧ (259 : Int32).toInt = 259 ∧ (4 : Int32).toInt = 4 := by decide
                            have heq : (259 : Int) = ll.toInt := by have q := hc5'''; rw [lt32] at q; have q2 := hc51''; rw [lt32] at q2; omega
                            have hle2 : (259 : Int) ≤ ll.toInt := by have q := hc51''; rw [lt32] at q; omega
                            have hle1 : (130 : Int) ≤ ll.toInt := by have q := hc51'; rw [lt32] at q; omega
                            have hle0 : (65 : Int) ≤ ll.toInt := by have q := hc51; rw [lt32] at q; omega
                            exact PureK_mk ((own_b1 (own_rd_step ((own_n4 y0).mp hc45) (by rw [hs0]; rfl : (0 : Int) + 1 + own_sz y0 = 65) hle0 (own_rd_step ((own_n4 y1).mp hc45') (by rw [hs1]; rfl : (65 : Int) + 1 + own_sz y1 = 130) hle1 (own_rd_step ((own_n4 y2).mp hc45'') (by rw [hs2]; rfl : (130 : Int) + 1 + own_sz y2 = 259) hle2 (own_rd_eq heq))))).symm) N12
                      · skip
                        refine Run.x_icmpYes (q := 54) X4 hx (hb hby d7_45) (flt hc45'').2.1 (by decide) (by decide) ?_
                        refine Run.x_iconst (q := 55) X4 hx (hb hby d7_54) (z := (0 : Int32)) rfl rfl ?_
                        replace E_this := (E_this.wr W2).wr W4
                        replace F_this_quantisation := F_this_quantisation.other W4 (Or.inl ne_this_qa)
                        refine Run.retN X4 hx hlk e4 (t := .boolean) hret (by simp) (z' := (0 : Int32)) (by decide) (hb hby d7_55) (by decide) (by decide) ?_
                        have kk : (0 : Int32).toInt = 0 ∧ (65 : Int32).toInt = 65 ∧ (130 : Int32).toInt = 130 ∧ (259 : Int32).toInt = 259 ∧ (4 : Int32).toInt = 4 := by decide
                        have hne2 : ¬ (130 : Int) = ll.toInt := by have q := hc5''; rw [lt32] at q; omega
                        have hne1 : ¬ (65 : Int) = ll.toInt := by have q := hc5'; rw [lt32] at q; omega
                        have hne0 : ¬ (0 : Int) = ll.toInt := by have q := hc5; rw [lt32] at q; omega
                        exact PureK_mk ((own_b0 (own_rd_bk hne0 (by rw [hs0]; rfl : (0 : Int) + 1 + own_sz y0 = 65) (own_rd_bk hne1 (by rw [hs1]; rfl : (65 : Int) + 1 + own_sz y1 = 130) (own_rd_no1 hne2 (mt (own_n4 y2).mpr hc45''))))).symm) N4
                  · skip
                    refine Run.x_icmpYes (q := 67) X4 hx (hb hby d7_5) (flt hc5'').2.1 (by decide) (by decide) ?_
                    refine Run.x_iconst (q := 68) X4 hx (hb hby d7_67) (z := (1 : Int32)) rfl rfl ?_
                    replace E_this := (E_this.wr W2).wr W4
                    replace F_this_quantisation := F_this_quantisation.other W4 (Or.inl ne_this_qa)
                    refine Run.retN X4 hx hlk e4 (t := .boolean) hret (by simp) (z' := (1 : Int32)) (by decide) (hb hby d7_68) (by decide) (by decide) ?_
                    have kk : (0 : Int32).toInt = 0 ∧ (65 : Int32).toInt = 65 ∧ (130 : Int32).toInt = 130 ∧ (4 : Int32).toInt = 4 := by decide
                    have heq : (130 : Int) = ll.toInt := by have q := hc5''; rw [lt32] at q; have q2 := hc51'; rw [lt32] at q2; omega
                    have hle1 : (130 : Int) ≤ ll.toInt := by have q := hc51'; rw [lt32] at q; omega
                    have hle0 : (65 : Int) ≤ ll.toInt := by have q := hc51; rw [lt32] at q; omega
                    exact PureK_mk ((own_b1 (own_rd_step ((own_n4 y0).mp hc45) (by rw [hs0]; rfl : (0 : Int) + 1 + own_sz y0 = 65) hle0 (own_rd_step ((own_n4 y1).mp hc45') (by rw [hs1]; rfl : (65 : Int) + 1 + own_sz y1 = 130) hle1 (own_rd_eq heq)))).symm) N4
              · skip
                refine Run.x_icmpYes (q := 54) X2 hx (hb hby d7_45) (flt hc45').2.1 (by decide) (by decide) ?_
                refine Run.x_iconst (q := 55) X2 hx (hb hby d7_54) (z := (0 : Int32)) rfl rfl ?_
                replace E_this := E_this.wr W2
                replace F_this_quantisation := F_this_quantisation.other W2 (Or.inl ne_this_qa)
                refine Run.retN X2 hx hlk e2 (t := .boolean) hret (by simp) (z' := (0 : Int32)) (by decide) (hb hby d7_55) (by decide) (by decide) ?_
                have kk : (0 : Int32).toInt = 0 ∧ (65 : Int32).toInt = 65 ∧ (130 : Int32).toInt = 130 ∧ (4 : Int32).toInt = 4 := by decide
                have hne1 : ¬ (65 : Int) = ll.toInt := by have q := hc5'; rw [lt32] at q; omega
                have hne0 : ¬ (0 : Int) = ll.toInt := by have q := hc5; rw [lt32] at q; omega
                exact PureK_mk ((own_b0 (own_rd_bk hne0 (by rw [hs0]; rfl : (0 : Int) + 1 + own_sz y0 = 65) (own_rd_no1 hne1 (mt (own_n4 y1).mpr hc45')))).symm) N2
            · have hs1 := own_s16' hk1
              refine Run.x_ifYes (q := 37) X2 hx (hb hby d7_29) ((if0 _ _).trans (feq (mt (own_sh4 hy1.1 hy1.2).mp hk1)).2) (by decide) (by decide) ?_
              refine Run.x_sipush (q := 40) X2 hx (hb hby d7_37) (z := (128 : Int32)) rfl rfl ?_
              refine Run.x_iadd (q := 41) X2 hx (hb hby d7_40) (z := (194 : Int32)) (by decide) rfl ?_
              refine Run.x_istoreN (q := 42) X2 hx #[.val (.ref this), .val (.ref seg), .val (.int (194 : Int32)), .val (.int y1), .val (.int (y1 &&& (15 : Int32)))] (hb hby d7_41) rfl rfl ?_
              refine Run.x_iload (q := 44) X2 hx (hb hby d7_42) rfl rfl ?_
              refine Run.x_iconst (q := 45) X2 hx (hb hby d7_44) (z := (4 : Int32)) rfl rfl ?_
              by_cases hc45' : (y1 &&& (15 : Int32)) < (4 : Int32)
              · skip
                refine Run.x_icmpNo (q := 48) X2 hx (hb hby d7_45) (tlt hc45').2.1 rfl ?_
                refine Run.x_iloadN (q := 49) X2 hx (hb hby d7_48) rfl rfl ?_
                refine Run.x_aloadN (q := 50) X2 hx (hb hby d7_49) rfl rfl rfl ?_
                refine Run.alen X2 hx hZ e2 A_seg (z := ll) hln (hb hby d7_50) ?_
                show Run p e below s _ _ _ (T2.setTop (mkF m 51 #[.val (.ref this), .val (.ref seg), .val (.int (194 : Int32)), .val (.int y1), .val (.int (y1 &&& (15 : Int32)))] [(.int ll), (.int (194 : Int32))]))
                by_cases hc51' : ll < (194 : Int32)
                · skip
                  refine Run.x_icmpNo (q := 54) X2 hx (hb hby d7_51) (tlt hc51').2.2.2 rfl ?_
                  refine Run.x_iconst (q := 55) X2 hx (hb hby d7_54) (z := (0 : Int32)) rfl rfl ?_
                  replace E_this := E_this.wr W2
                  replace F_this_quantisation := F_this_quantisation.other W2 (Or.inl ne_this_qa)
                  refine Run.retN X2 hx hlk e2 (t := .boolean) hret (by simp) (z' := (0 : Int32)) (by decide) (hb hby d7_55) (by decide) (by decide) ?_
                  have kk : (0 : Int32).toInt = 0 ∧ (65 : Int32).toInt = 65 ∧ (194 : Int32).toInt = 194 ∧ (4 : Int32).toInt = 4 := by decide
                  have hgt : ¬ (194 : Int) ≤ ll.toInt := by have q := hc51'; rw [lt32] at q; omega
                  have hne1 : ¬ (65 : Int) = ll.toInt := by have q := hc5'; rw [lt32] at q; omega
                  have hne0 : ¬ (0 : Int) = ll.toInt := by have q := hc5; rw [lt32] at q; omega
                  exact PureK_mk ((own_b0 (own_rd_bk hne0 (by rw [hs0]; rfl : (0 : Int) + 1 + own_sz y0 = 65) (own_rd_no2 hne1 (by rw [hs1]; rfl : (65 : Int) + 1 + own_sz y1 = 194) hgt))).symm) N2
                · skip
                  refine Run.x_icmpYes (q := 56) X2 hx (hb hby d7_51) (flt hc51').2.2.2 (by decide) (by decide) ?_
                  refine Run.x_aloadN (q := 57) X2 hx (hb hby d7_56) rfl rfl rfl ?_
                  replace F_this_quantisation := F_this_quantisation.other W2 (Or.inl ne_this_qa)
                  obtain ⟨T17, X17, e17, st17⟩ := getF X2 hx hZ hown (host := "") (Or.inl (hw _ (List.mem_of_getElem? (i := 22) rfl))) Via.refl e2 F_this_quantisation (g := (mkF m 57 #[.val (.ref this), .val (.ref seg), .val (.int (194 : Int32)), .val (.int y1), .val (.int (y1 &&& (15 : Int32)))] [(.ref this)])) rfl rfl (hb hby d7_57)
                  refine Run.st st17 ?_
                  show Run p e below s _ _ _ (T17.setTop (mkF m 60 #[.val (.ref this), .val (.ref seg), .val (.int (194 : Int32)), .val (.int y1), .val (.int (y1 &&& (15 : Int32)))] [(.ref qa)]))
                  refine Run.x_iload (q := 62) X17 hx (hb hby d7_60) rfl rfl ?_
                  refine Run.x_iconst (q := 63) X17 hx (hb hby d7_62) (z := (1 : Int32)) rfl rfl ?_
                  have hj63 := own_n15 y1
                  obtain ⟨iq1, hiq1⟩ : ∃ i : Nat, (y1 &&& (15 : Int32)).toInt = i := ⟨(y1 &&& (15 : Int32)).toInt.toNat, by omega⟩
                  have hib1 : iq1 < (([(.int (0 : Int32)), (.int (0 : Int32)), (.int (0 : Int32)), (.int (0 : Int32))].set iq0 (Value.int (1 : Int32))) : List Value).length := by
                    have q4 := hc45'; rw [lt32] at q4; have k4 : (4 : Int32).toInt = 4 := rfl; have hh := hiq1; simp only [List.length_set, List.length_cons, List.length_nil]; omega
                  refine Run.stZ X17 hx hZ e17 A_qa (i := iq1) hiq1 hib1 (z' := (1 : Int32)) (by decide) (hb hby d7_63) ?_
                  intro T18 h18 X18 e18 W18 A18
                  replace A_qa : Ars Z h18 qa .boolean (([(.int (0 : Int32)), (.int (0 : Int32)), (.int (0 : Int32)), (.int (0 : Int32))].set iq0 (Value.int (1 : Int32))).set iq1 (Value.int (1 : Int32))) := A18
                  have N18 := Fr.snoc X18 N2 g_qa
                  have Z18 : n0 ≤ h18.size := Nat.le_trans Z2 (Nat.le_of_eq W18.size.symm)
                  show Run p e below s _ _ _ (T18.setTop (mkF m 64 #[.val (.ref this), .val (.ref seg), .val (.int (194 : Int32)), .val (.int y1), .val (.int (y1 &&& (15 : Int32)))] []))
                  refine Run.x_goto (q := 2) X18 hx (hb hby d7_64) (by decide) (by decide) ?_
                  refine Run.x_iloadN (q := 3) X18 hx (hb hby d7_2) rfl rfl ?_
                  refine Run.x_aloadN (q := 4) X18 hx (hb hby d7_3) rfl rfl rfl ?_
                  replace A_seg := A_seg.other W18 ne_seg_qa
                  refine Run.alen X18 hx hZ e18 A_seg (z := ll) hln (hb hby d7_4) ?_
                  show Run p e below s _ _ _ (T18.setTop (mkF m 5 #[.val (.ref this), .val (.ref seg), .val (.int (194 : Int32)), .val (.int y1), .val (.int (y1 &&& (15 : Int32)))] [(.int ll), (.int (194 : Int32))]))
                  by_cases hc5'' : (194 : Int32) < ll
                  · skip
                    refine Run.x_icmpNo (q := 8) X18 hx (hb hby d7_5) (tlt hc5'').2.1 rfl ?_
                    refine Run.x_aloadN (q := 9) X18 hx (hb hby d7_8) rfl rfl rfl ?_
                    refine Run.x_iloadN (q := 10) X18 hx (hb hby d7_9) rfl rfl ?_
                    refine Run.x_iinc (q := 13) X18 hx #[.val (.ref this), .val (.ref seg), .val (.int (195 : Int32)), .val (.int y1), .val (.int (y1 &&& (15 : Int32)))] (hb hby d7_10) rfl (z := (195 : Int32)) (by decide) rfl rfl ?_
                    have hlt2 : 194 < vs.length := by have q := hc5''; rw [lt32] at q; have k : (194 : Int32).toInt = 194 := rfl; omega
                    have hel2 := hq2 194 (by rw [hs0, hs1]; rfl) hlt2
                    refine Run.ldB X18 hx hZ e18 A_seg (i := 194) (v := (.int y2.toInt8.toInt32)) (by decide) hel2 (hb hby d7_13) ?_
                    show Run p e below s _ _ _ (T18.setTop (mkF m 14 #[.val (.ref this), .val (.ref seg), .val (.int (195 : Int32)), .val (.int y1), .val (.int (y1 &&& (15 : Int32)))] [(.int y2.toInt8.toInt32)]))
                    refine Run.x_sipush (q := 17) X18 hx (hb hby d7_14) (z := (255 : Int32)) rfl rfl ?_
                    refine Run.x_iand (q := 18) X18 hx (hb hby d7_17) rfl rfl ?_
                    rw [own_back hy2.1 hy2.2]
                    show Run p e below s _ _ _ (T18.setTop (mkF m 18 #[.val (.ref this), .val (.ref seg), .val (.int (195 : Int32)), .val (.int y1), .val (.int (y1 &&& (15 : Int32)))] [(.int y2)]))
                    refine Run.x_istoreN (q := 19) X18 hx #[.val (.ref this), .val (.ref seg), .val (.int (195 : Int32)), .val (.int y2), .val (.int (y1 &&& (15 : Int32)))] (hb hby d7_18) rfl rfl ?_
                    refine Run.x_iloadN (q := 20) X18 hx (hb hby d7_19) rfl rfl ?_
                    refine Run.x_bipush (q := 22) X18 hx (hb hby d7_20) (z := (15 : Int32)) rfl rfl ?_
                    refine Run.x_iand (q := 23) X18 hx (hb hby d7_22) rfl rfl ?_
                    refine Run.x_istore (q := 25) X18 hx #[.val (.ref this), .val (.ref seg), .val (.int (195 : Int32)), .val (.int y2), .val (.int (y2 &&& (15 : Int32)))] (hb hby d7_23) rfl rfl ?_
                    refine Run.x_iloadN (q := 26) X18 hx (hb hby d7_25) rfl rfl ?_
                    refine Run.x_iloadN (q := 27) X18 hx (hb hby d7_26) rfl rfl ?_
                    refine Run.x_iconst (q := 28) X18 hx (hb hby d7_27) (z := (4 : Int32)) rfl rfl ?_
                    refine Run.x_ishr (q := 29) X18 hx (hb hby d7_28) rfl rfl ?_
                    by_cases hk2 : y2 < 16
                    · have hs2 := own_s16 hk2
                      refine Run.x_ifNo (q := 32) X18 hx (hb hby d7_29) ((if0 _ _).trans (teq ((own_sh4 hy2.1 hy2.2).mpr hk2)).2) rfl ?_
                      refine Run.x_bipush (q := 34) X18 hx (hb hby d7_32) (z := (64 : Int32)) rfl rfl ?_
                      refine Run.x_goto (q := 40) X18 hx (hb hby d7_34) (by decide) (by decide) ?_
                      refine Run.x_iadd (q := 41) X18 hx (hb hby d7_40) (z := (259 : Int32)) (by decide) rfl ?_
                      refine Run.x_istoreN (q := 42) X18 hx #[.val (.ref this), .val (.ref seg), .val (.int (259 : Int32)), .val (.int y2), .val (.int (y2 &&& (15 : Int32)))] (hb hby d7_41) rfl rfl ?_
                      refine Run.x_iload (q := 44) X18 hx (hb hby d7_42) rfl rfl ?_
                      refine Run.x_iconst (q := 45) X18 hx (hb hby d7_44) (z := (4 : Int32)) rfl rfl ?_
                      by_cases hc45'' : (y2 &&& (15 : Int32)) < (4 : Int32)
                      · skip
                        refine Run.x_icmpNo (q := 48) X18 hx (hb hby d7_45) (tlt hc45'').2.1 rfl ?_
                        refine Run.x_iloadN (q := 49) X18 hx (hb hby d7_48) rfl rfl ?_
                        refine Run.x_aloadN (q := 50) X18 hx (hb hby d7_49) rfl rfl rfl ?_
                        refine Run.alen X18 hx hZ e18 A_seg (z := ll) hln (hb hby d7_50) ?_
                        show Run p e below s _ _ _ (T18.setTop (mkF m 51 #[.val (.ref this), .val (.ref seg), .val (.int (259 : Int32)), .val (.int y2), .val (.int (y2 &&& (15 : Int32)))] [(.int ll), (.int (259 : Int32))]))
                        by_cases hc51'' : ll < (259 : Int32)
                        · skip
                          refine Run.x_icmpNo (q := 54) X18 hx (hb hby d7_51) (tlt hc51'').2.2.2 rfl ?_
                          refine Run.x_iconst (q := 55) X18 hx (hb hby d7_54) (z := (0 : Int32)) rfl rfl ?_
                          replace E_this := (E_this.wr W2).wr W18
                          replace F_this_quantisation := F_this_quantisation.other W18 (Or.inl ne_this_qa)
                          refine Run.retN X18 hx hlk e18 (t := .boolean) hret (by simp) (z' := (0 : Int32)) (by decide) (hb hby d7_55) (by decide) (by decide) ?_
                          have kk : (0 : Int32).toInt = 0 ∧ (65 : Int32).toInt = 65 ∧ (194 : Int32).toInt = 194 ∧ (259 : Int32).toInt = 259 ∧ (4 : Int32).toInt = 4 := by decide
                          have hgt : ¬ (259 : Int) ≤ ll.toInt := by have q := hc51''; rw [lt32] at q; omega
                          have hne2 : ¬ (194 : Int) = ll.toInt := by have q := hc5''; rw [lt32] at q; omega
                          have hne1 : ¬ (65 : Int) = ll.toInt := by have q := hc5'; rw [lt32] at q; omega
                          have hne0 : ¬ (0 : Int) = ll.toInt := by have q := hc5; rw [lt32] at q; omega
                          exact PureK_mk ((own_b0 (own_rd_bk hne0 (by rw [hs0]; rfl : (0 : Int) + 1 + own_sz y0 = 65) (own_rd_bk hne1 (by rw [hs1]; rfl : (65 : Int) + 1 + own_sz y1 = 194) (own_rd_no2 hne2 (by rw [hs2]; rfl : (194 : Int) + 1 + own_sz y2 = 259) hgt)))).symm) N18
                        · skip
                          refine Run.x_icmpYes (q := 56) X18 hx (hb hby d7_51) (flt hc51'').2.2.2 (by decide) (by decide) ?_
                          refine Run.x_aloadN (q := 57) X18 hx (hb hby d7_56) rfl rfl rfl ?_
                          replace F_this_quantisation := F_this_quantisation.other W18 (Or.inl ne_this_qa)
                          obtain ⟨T19, X19, e19, st19⟩ := getF X18 hx hZ hown (host := "") (Or.inl (hw _ (List.mem_of_getElem? (i := 22) rfl))) Via.refl e18 F_this_quantisation (g := (mkF m 57 #[.val (.ref this), .val (.ref seg), .val (.int (259 : Int32)), .val (.int y2), .val (.int (y2 &&& (15 : Int32)))] [(.ref this)])) rfl rfl (hb hby d7_57)
                          refine Run.st st19 ?_
                          show Run p e below s _ _ _ (T19.setTop (mkF m 60 #[.val (.ref this), .val (.ref seg), .val (.int (259 : Int32)), .val (.int y2), .val (.int (y2 &&& (15 : Int32)))] [(.ref qa)]))
                          refine Run.x_iload (q := 62) X19 hx (hb hby d7_60) rfl rfl ?_
                          refine Run.x_iconst (q := 63) X19 hx (hb hby d7_62) (z := (1 : Int32)) rfl rfl ?_
                          have hj63 := own_n15 y2
                          obtain ⟨iq2, hiq2⟩ : ∃ i : Nat, (y2 &&& (15 : Int32)).toInt = i := ⟨(y2 &&& (15 : Int32)).toInt.toNat, by omega⟩
                          have hib2 : iq2 < ((([(.int (0 : Int32)), (.int (0 : Int32)), (.int (0 : Int32)), (.int (0 : Int32))].set iq0 (Value.int (1 : Int32))).set iq1 (Value.int (1 : Int32))) : List Value).length := by
                            have q4 := hc45''; rw [lt32] at q4; have k4 : (4 : Int32).toInt = 4 := rfl; have hh := hiq2; simp only [List.length_set, List.length_cons, List.length_nil]; omega
                          refine Run.stZ X19 hx hZ e19 A_qa (i := iq2) hiq2 hib2 (z' := (1 : Int32)) (by decide) (hb hby d7_63) ?_
                          intro T20 h20 X20 e20 W20 A20
                          replace A_qa : Ars Z h20 qa .boolean ((([(.int (0 : Int32)), (.int (0 : Int32)), (.int (0 : Int32)), (.int (0 : Int32))].set iq0 (Value.int (1 : Int32))).set iq1 (Value.int (1 : Int32))).set iq2 (Value.int (1 : Int32))) := A20
                          have N20 := Fr.snoc X20 N18 g_qa
                          have Z20 : n0 ≤ h20.size := Nat.le_trans Z18 (Nat.le_of_eq W20.size.symm)
                          show Run p e below s _ _ _ (T20.setTop (mkF m 64 #[.val (.ref this), .val (.ref seg), .val (.int (259 : Int32)), .val (.int y2), .val (.int (y2 &&& (15 : Int32)))] []))
                          refine Run.x_goto (q := 2) X20 hx (hb hby d7_64) (by decide) (by decide) ?_
                          refine Run.x_iloadN (q := 3) X20 hx (hb hby d7_2) rfl rfl ?_
                          refine Run.x_aloadN (q := 4) X20 hx (hb hby d7_3) rfl rfl rfl ?_
                          replace A_seg := A_seg.other W20 ne_seg_qa
                          refine Run.alen X20 hx hZ e20 A_seg (z := ll) hln (hb hby d7_4) ?_
                          show Run p e below s _ _ _ (T20.setTop (mkF m 5 #[.val (.ref this), .val (.ref seg), .val (.int (259 : Int32)), .val (.int y2), .val (.int (y2 &&& (15 : Int32)))] [(.int ll), (.int (259 : Int32))]))
                          by_cases hc5''' : (259 : Int32) < ll
                          · skip
                            refine Run.x_icmpNo (q := 8) X20 hx (hb hby d7_5) (tlt hc5''').2.1 rfl ?_
                            refine Run.x_aloadN (q := 9) X20 hx (hb hby d7_8) rfl rfl rfl ?_
                            refine Run.x_iloadN (q := 10) X20 hx (hb hby d7_9) rfl rfl ?_
                            refine Run.x_iinc (q := 13) X20 hx #[.val (.ref this), .val (.ref seg), .val (.int (260 : Int32)), .val (.int y2), .val (.int (y2 &&& (15 : Int32)))] (hb hby d7_10) rfl (z := (260 : Int32)) (by decide) rfl rfl ?_
                            have hlt3 : 259 < vs.length := by have q := hc5'''; rw [lt32] at q; have k : (259 : Int32).toInt = 259 := rfl; omega
                            have hel3 := hq3 259 (by rw [hs0, hs1, hs2]; rfl) hlt3
                            refine Run.ldB X20 hx hZ e20 A_seg (i := 259) (v := (.int y3.toInt8.toInt32)) (by decide) hel3 (hb hby d7_13) ?_
                            show Run p e below s _ _ _ (T20.setTop (mkF m 14 #[.val (.ref this), .val (.ref seg), .val (.int (260 : Int32)), .val (.int y2), .val (.int (y2 &&& (15 : Int32)))] [(.int y3.toInt8.toInt32)]))
                            refine Run.x_sipush (q := 17) X20 hx (hb hby d7_14) (z := (255 : Int32)) rfl rfl ?_
                            refine Run.x_iand (q := 18) X20 hx (hb hby d7_17) rfl rfl ?_
                            rw [own_back hy3.1 hy3.2]
                            show Run p e below s _ _ _ (T20.setTop (mkF m 18 #[.val (.ref this), .val (.ref seg), .val (.int (260 : Int32)), .val (.int y2), .val (.int (y2 &&& (15 : Int32)))] [(.int y3)]))
                            refine Run.x_istoreN (q := 19) X20 hx #[.val (.ref this), .val (.ref seg), .val (.int (260 : Int32)), .val (.int y3), .val (.int (y2 &&& (15 : Int32)))] (hb hby d7_18) rfl rfl ?_
                            refine Run.x_iloadN (q := 20) X20 hx (hb hby d7_19) rfl rfl ?_
                            refine Run.x_bipush (q := 22) X20 hx (hb hby d7_20) (z := (15 : Int32)) rfl rfl ?_
                            refine Run.x_iand (q := 23) X20 hx (hb hby d7_22) rfl rfl ?_
                            refine Run.x_istore (q := 25) X20 hx #[.val (.ref this), .val (.ref seg), .val (.int (260 : Int32)), .val (.int y3), .val (.int (y3 &&& (15 : Int32)))] (hb hby d7_23) rfl rfl ?_
                            refine Run.x_iloadN (q := 26) X20 hx (hb hby d7_25) rfl rfl ?_
                            refine Run.x_iloadN (q := 27) X20 hx (hb hby d7_26) rfl rfl ?_
                            refine Run.x_iconst (q := 28) X20 hx (hb hby d7_27) (z := (4 : Int32)) rfl rfl ?_
                            refine Run.x_ishr (q := 29) X20 hx (hb hby d7_28) rfl rfl ?_
                            by_cases hk3 : y3 < 16
                            · have hs3 := own_s16 hk3
                              refine Run.x_ifNo (q := 32) X20 hx (hb hby d7_29) ((if0 _ _).trans (teq ((own_sh4 hy3.1 hy3.2).mpr hk3)).2) rfl ?_
                              refine Run.x_bipush (q := 34) X20 hx (hb hby d7_32) (z := (64 : Int32)) rfl rfl ?_
                              refine Run.x_goto (q := 40) X20 hx (hb hby d7_34) (by decide) (by decide) ?_
                              refine Run.x_iadd (q := 41) X20 hx (hb hby d7_40) (z := (324 : Int32)) (by decide) rfl ?_
                              refine Run.x_istoreN (q := 42) X20 hx #[.val (.ref this), .val (.ref seg), .val (.int (324 : Int32)), .val (.int y3), .val (.int (y3 &&& (15 : Int32)))] (hb hby d7_41) rfl rfl ?_
                              refine Run.x_iload (q := 44) X20 hx (hb hby d7_42) rfl rfl ?_
                              refine Run.x_iconst (q := 45) X20 hx (hb hby d7_44) (z := (4 : Int32)) rfl rfl ?_
                              by_cases hc45''' : (y3 &&& (15 : Int32)) < (4 : Int32)
                              · skip
                                refine Run.x_icmpNo (q := 48) X20 hx (hb hby d7_45) (tlt hc45''').2.1 rfl ?_
                                refine Run.x_iloadN (q := 49) X20 hx (hb hby d7_48) rfl rfl ?_
                                refine Run.x_aloadN (q := 50) X20 hx (hb hby d7_49) rfl rfl rfl ?_
                                refine Run.alen X20 hx hZ e20 A_seg (z := ll) hln (hb hby d7_50) ?_
                                show Run p e below s _ _ _ (T20.setTop (mkF m 51 #[.val (.ref this), .val (.ref seg), .val (.int (324 : Int32)), .val (.int y3), .val (.int (y3 &&& (15 : Int32)))] [(.int ll), (.int (324 : Int32))]))
                                by_cases hc51''' : ll < (324 : Int32)
                                · skip
                                  refine Run.x_icmpNo (q := 54) X20 hx (hb hby d7_51) (tlt hc51''').2.2.2 rfl ?_
                                  refine Run.x_iconst (q := 55) X20 hx (hb hby d7_54) (z := (0 : Int32)) rfl rfl ?_
                                  replace E_this := ((E_this.wr W2).wr W18).wr W20
                                  replace F_this_quantisation := F_this_quantisation.other W20 (Or.inl ne_this_qa)
                                  refine Run.retN X20 hx hlk e20 (t := .boolean) hret (by simp) (z' := (0 : Int32)) (by decide) (hb hby d7_55) (by decide) (by decide) ?_
                                  have kk : (0 : Int32).toInt = 0 ∧ (65 : Int32).toInt = 65 ∧ (194 : Int32).toInt = 194 ∧ (259 : Int32).toInt = 259 ∧ (324 : Int32).toInt = 324 ∧ (4 : Int32).toInt = 4 := by decide
                                  have hgt : ¬ (324 : Int) ≤ ll.toInt := by have q := hc51'''; rw [lt32] at q; omega
                                  have hne3 : ¬ (259 : Int) = ll.toInt := by have q := hc5'''; rw [lt32] at q; omega
                                  have hne2 : ¬ (194 : Int) = ll.toInt := by have q := hc5''; rw [lt32] at q; omega
                                  have hne1 : ¬ (65 : Int) = ll.toInt := by have q := hc5'; rw [lt32] at q; omega
                                  have hne0 : ¬ (0 : Int) = ll.toInt := by have q := hc5; rw [lt32] at q; omega
                                  exact PureK_mk ((own_b0 (own_rd_bk hne0 (by rw [hs0]; rfl : (0 : Int) + 1 + own_sz y0 = 65) (own_rd_bk hne1 (by rw [hs1]; rfl : (65 : Int) + 1 + own_sz y1 = 194) (own_rd_bk hne2 (by rw [hs2]; rfl : (194 : Int) + 1 + own_sz y2 = 259) (own_rd_no2 hne3 (by rw [hs3]; rfl : (259 : Int) + 1 + own_sz y3 = 324) hgt))))).symm) N20
                                · skip
                                  refine Run.x_icmpYes (q := 56) X20 hx (hb hby d7_51) (flt hc51''').2.2.2 (by decide) (by decide) ?_
                                  refine Run.x_aloadN (q := 57) X20 hx (hb hby d7_56) rfl rfl rfl ?_
                                  replace F_this_quantisation := F_this_quantisation.other W20 (Or.inl ne_this_qa)
                                  obtain ⟨T21, X21, e21, st21⟩ := getF X20 hx hZ hown (host := "") (Or.inl (hw _ (List.mem_of_getElem? (i := 22) rfl))) Via.refl e20 F_this_quantisation (g := (mkF m 57 #[.val (.ref this), .val (.ref seg), .val (.int (324 : Int32)), .val (.int y3), .val (.int (y3 &&& (15 : Int32)))] [(.ref this)])) rfl rfl (hb hby d7_57)
                                  refine Run.st st21 ?_
                                  show Run p e below s _ _ _ (T21.setTop (mkF m 60 #[.val (.ref this), .val (.ref seg), .val (.int (324 : Int32)), .val (.int y3), .val (.int (y3 &&& (15 : Int32)))] [(.ref qa)]))
                                  refine Run.x_iload (q := 62) X21 hx (hb hby d7_60) rfl rfl ?_
                                  refine Run.x_iconst (q := 63) X21 hx (hb hby d7_62) (z := (1 : Int32)) rfl rfl ?_
                                  have hj63 := own_n15 y3
                                  obtain ⟨iq3, hiq3⟩ : ∃ i : Nat, (y3 &&& (15 : Int32)).toInt = i := ⟨(y3 &&& (15 : Int32)).toInt.toNat, by omega⟩
                                  have hib3 : iq3 < (((([(.int (0 : Int32)), (.int (0 : Int32)), (.int (0 : Int32)), (.int (0 : Int32))].set iq0 (Value.int (1 : Int32))).set iq1 (Value.int (1 : Int32))).set iq2 (Value.int (1 : Int32))) : List Value).length := by
                                    have q4 := hc45'''; rw [lt32] at q4; have k4 : (4 : Int32).toInt = 4 := rfl; have hh := hiq3; simp only [List.length_set, List.length_cons, List.length_nil]; omega
                                  refine Run.stZ X21 hx hZ e21 A_qa (i := iq3) hiq3 hib3 (z' := (1 : Int32)) (by decide) (hb hby d7_63) ?_
                                  intro T22 h22 X22 e22 W22 A22
                                  replace A_qa : Ars Z h22 qa .boolean (((([(.int (0 : Int32)), (.int (0 : Int32)), (.int (0 : Int32)), (.int (0 : Int32))].set iq0 (Value.int (1 : Int32))).set iq1 (Value.int (1 : Int32))).set iq2 (Value.int (1 : Int32))).set iq3 (Value.int (1 : Int32))) := A22
                                  have N22 := Fr.snoc X22 N20 g_qa
                                  have Z22 : n0 ≤ h22.size := Nat.le_trans Z20 (Nat.le_of_eq W22.size.symm)
                                  show Run p e below s _ _ _ (T22.setTop (mkF m 64 #[.val (.ref this), .val (.ref seg), .val (.int (324 : Int32)), .val (.int y3), .val (.int (y3 &&& (15 : Int32)))] []))
                                  refine Run.x_goto (q := 2) X22 hx (hb hby d7_64) (by decide) (by decide) ?_
                                  refine Run.x_iloadN (q := 3) X22 hx (hb hby d7_2) rfl rfl ?_
                                  refine Run.x_aloadN (q := 4) X22 hx (hb hby d7_3) rfl rfl rfl ?_
                                  replace A_seg := A_seg.other W22 ne_seg_qa
                                  refine Run.alen X22 hx hZ e22 A_seg (z := ll) hln (hb hby d7_4) ?_
                                  show Run p e below s _ _ _ (T22.setTop (mkF m 5 #[.val (.ref this), .val (.ref seg), .val (.int (324 : Int32)), .val (.int y3), .val (.int (y3 &&& (15 : Int32)))] [(.int ll), (.int (324 : Int32))]))
                                  have hend : ¬ (324 : Int32) < ll := by rw [lt32]; have k : (324 : Int32).toInt = 324 := rfl; omega
                                  refine Run.x_icmpYes (q := 67) X22 hx (hb hby d7_5) (flt hend).2.1 (by decide) (by decide) ?_
                                  refine Run.x_iconst (q := 68) X22 hx (hb hby d7_67) (z := (1 : Int32)) rfl rfl ?_
                                  replace E_this := (((E_this.wr W2).wr W18).wr W20).wr W22
                                  replace F_this_quantisation := F_this_quantisation.other W22 (Or.inl ne_this_qa)
                                  refine Run.retN X22 hx hlk e22 (t := .boolean) hret (by simp) (z' := (1 : Int32)) (by decide) (hb hby d7_68) (by decide) (by decide) ?_
                                  have kk : (0 : Int32).toInt = 0 ∧ (65 : Int32).toInt = 65 ∧ (194 : Int32).toInt = 194 ∧ (259 : Int32).toInt = 259 ∧ (324 : Int32).toInt = 324 ∧ (4 : Int32).toInt = 4 := by decide
                                  have hle3 : (324 : Int) ≤ ll.toInt := by have q := hc51'''; rw [lt32] at q; omega
                                  have hle2 : (259 : Int) ≤ ll.toInt := by have q := hc51''; rw [lt32] at q; omega
                                  have hle1 : (194 : Int) ≤ ll.toInt := by have q := hc51'; rw [lt32] at q; omega
                                  have hle0 : (65 : Int) ≤ ll.toInt := by have q := hc51; rw [lt32] at q; omega
                                  exact PureK_mk ((own_b1 (own_rd_step ((own_n4 y0).mp hc45) (by rw [hs0]; rfl : (0 : Int) + 1 + own_sz y0 = 65) hle0 (own_rd_step ((own_n4 y1).mp hc45') (by rw [hs1]; rfl : (65 : Int) + 1 + own_sz y1 = 194) hle1 (own_rd_step ((own_n4 y2).mp hc45'') (by rw [hs2]; rfl : (194 : Int) + 1 + own_sz y2 = 259) hle2 (own_rd_step ((own_n4 y3).mp hc45''') (by rw [hs3]; rfl : (259 : Int) + 1 + own_sz y3 = 324) hle3 own_rd0))))).symm) N22
                              · skip
                                refine Run.x_icmpYes (q := 54) X20 hx (hb hby d7_45) (flt hc45''').2.1 (by decide) (by decide) ?_
                                refine Run.x_iconst (q := 55) X20 hx (hb hby d7_54) (z := (0 : Int32)) rfl rfl ?_
                                replace E_this := ((E_this.wr W2).wr W18).wr W20
                                replace F_this_quantisation := F_this_quantisation.other W20 (Or.inl ne_this_qa)
                                refine Run.retN X20 hx hlk e20 (t := .boolean) hret (by simp) (z' := (0 : Int32)) (by decide) (hb hby d7_55) (by decide) (by decide) ?_
                                have kk : (0 : Int32).toInt = 0 ∧ (65 : Int32).toInt = 65 ∧ (194 : Int32).toInt = 194 ∧ (259 : Int32).toInt = 259 ∧ (324 : Int32).toInt = 324 ∧ (4 : Int32).toInt = 4 := by decide
                                have hne3 : ¬ (259 : Int) = ll.toInt := by have q := hc5'''; rw [lt32] at q; omega
                                have hne2 : ¬ (194 : Int) = ll.toInt := by have q := hc5''; rw [lt32] at q; omega
                                have hne1 : ¬ (65 : Int) = ll.toInt := by have q := hc5'; rw [lt32] at q; omega
                                have hne0 : ¬ (0 : Int) = ll.toInt := by have q := hc5; rw [lt32] at q; omega
                                exact PureK_mk ((own_b0 (own_rd_bk hne0 (by rw [hs0]; rfl : (0 : Int) + 1 + own_sz y0 = 65) (own_rd_bk hne1 (by rw [hs1]; rfl : (65 : Int) + 1 + own_sz y1 = 194) (own_rd_bk hne2 (by rw [hs2]; rfl : (194 : Int) + 1 + own_sz y2 = 259) (own_rd_no1 hne3 (mt (own_n4 y3).mpr hc45''')))))).symm) N20
                            · have hs3 := own_s16' hk3
                              refine Run.x_ifYes (q := 37) X20 hx (hb hby d7_29) ((if0 _ _).trans (feq (mt (own_sh4 hy3.1 hy3.2).mp hk3)).2) (by decide) (by decide) ?_
                              refine Run.x_sipush (q := 40) X20 hx (hb hby d7_37) (z := (128 : Int32)) rfl rfl ?_
                              refine Run.x_iadd (q := 41) X20 hx (hb hby d7_40) (z := (388 : Int32)) (by decide) rfl ?_
                              refine Run.x_istoreN (q := 42) X20 hx #[.val (.ref this), .val (.ref seg), .val (.int (388 : Int32)), .val (.int y3), .val (.int (y3 &&& (15 : Int32)))] (hb hby d7_41) rfl rfl ?_
                              refine Run.x_iload (q := 44) X20 hx (hb hby d7_42) rfl rfl ?_
                              refine Run.x_iconst (q := 45) X20 hx (hb hby d7_44) (z := (4 : Int32)) rfl rfl ?_
                              by_cases hc45''' : (y3 &&& (15 : Int32)) < (4 : Int32)
                              · skip
                                refine Run.x_icmpNo (q := 48) X20 hx (hb hby d7_45) (tlt hc45''').2.1 rfl ?_
                                refine Run.x_iloadN (q := 49) X20 hx (hb hby d7_48) rfl rfl ?_
                                refine Run.x_aloadN (q := 50) X20 hx (hb hby d7_49) rfl rfl rfl ?_
                                refine Run.alen X20 hx hZ e20 A_seg (z := ll) hln (hb hby d7_50) ?_
                                show Run p e below s _ _ _ (T20.setTop (mkF m 51 #[.val (.ref this), .val (.ref seg), .val (.int (388 : Int32)), .val (.int y3), .val (.int (y3 &&& (15 : Int32)))] [(.int ll), (.int (388 : Int32))]))
                                by_cases hc51''' : ll < (388 : Int32)
                                · skip
                                  refine Run.x_icmpNo (q := 54) X20 hx (hb hby d7_51) (tlt hc51''').2.2.2 rfl ?_
                                  refine Run.x_iconst (q := 55) X20 hx (hb hby d7_54) (z := (0 : Int32)) rfl rfl ?_
                                  replace E_this := ((E_this.wr W2).wr W18).wr W20
                                  replace F_this_quantisation := F_this_quantisation.other W20 (Or.inl ne_this_qa)
                                  refine Run.retN X20 hx hlk e20 (t := .boolean) hret (by simp) (z' := (0 : Int32)) (by decide) (hb hby d7_55) (by decide) (by decide) ?_
                                  have kk : (0 : Int32).toInt = 0 ∧ (65 : Int32).toInt = 65 ∧ (194 : Int32).toInt = 194 ∧ (259 : Int32).toInt = 259 ∧ (388 : Int32).toInt = 388 ∧ (4 : Int32).toInt = 4 := by decide
                                  have hgt : ¬ (388 : Int) ≤ ll.toInt := by have q := hc51'''; rw [lt32] at q; omega
                                  have hne3 : ¬ (259 : Int) = ll.toInt := by have q := hc5'''; rw [lt32] at q; omega
                                  have hne2 : ¬ (194 : Int) = ll.toInt := by have q := hc5''; rw [lt32] at q; omega
                                  have hne1 : ¬ (65 : Int) = ll.toInt := by have q := hc5'; rw [lt32] at q; omega
                                  have hne0 : ¬ (0 : Int) = ll.toInt := by have q := hc5; rw [lt32] at q; omega
                                  exact PureK_mk ((own_b0 (own_rd_bk hne0 (by rw [hs0]; rfl : (0 : Int) + 1 + own_sz y0 = 65) (own_rd_bk hne1 (by rw [hs1]; rfl : (65 : Int) + 1 + own_sz y1 = 194) (own_rd_bk hne2 (by rw [hs2]; rfl : (194 : Int) + 1 + own_sz y2 = 259) (own_rd_no2 hne3 (by rw [hs3]; rfl : (259 : Int) + 1 + own_sz y3 = 388) hgt))))).symm) N20
                                · skip
                                  refine Run.x_icmpYes (q := 56) X20 hx (hb hby d7_51) (flt hc51''').2.2.2 (by decide) (by decide) ?_
                                  refine Run.x_aloadN (q := 57) X20 hx (hb hby d7_56) rfl rfl rfl ?_
                                  replace F_this_quantisation := F_this_quantisation.other W20 (Or.inl ne_this_qa)
                                  obtain ⟨T23, X23, e23, st23⟩ := getF X20 hx hZ hown (host := "") (Or.inl (hw _ (List.mem_of_getElem? (i := 22) rfl))) Via.refl e20 F_this_quantisation (g := (mkF m 57 #[.val (.ref this), .val (.ref seg), .val (.int (388 : Int32)), .val (.int y3), .val (.int (y3 &&& (15 : Int32)))] [(.ref this)])) rfl rfl (hb hby d7_57)
                                  refine Run.st st23 ?_
                                  show Run p e below s _ _ _ (T23.setTop (mkF m 60 #[.val (.ref this), .val (.ref seg), .val (.int (388 : Int32)), .val (.int y3), .val (.int (y3 &&& (15 : Int32)))] [(.ref qa)]))
                                  refine Run.x_iload (q := 62) X23 hx (hb hby d7_60) rfl rfl ?_
                                  refine Run.x_iconst (q := 63) X23 hx (hb hby d7_62) (z := (1 : Int32)) rfl rfl ?_
                                  have hj63 := own_n15 y3
                                  obtain ⟨iq3, hiq3⟩ : ∃ i : Nat, (y3 &&& (15 : Int32)).toInt = i := ⟨(y3 &&& (15 : Int32)).toInt.toNat, by omega⟩
                                  have hib3 : iq3 < (((([(.int (0 : Int32)), (.int (0 : Int32)), (.int (0 : Int32)), (.int (0 : Int32))].set iq0 (Value.int (1 : Int32))).set iq1 (Value.int (1 : Int32))).set iq2 (Value.int (1 : Int32))) : List Value).length := by
                                    have q4 := hc45'''; rw [lt32] at q4; have k4 : (4 : Int32).toInt = 4 := rfl; have hh := hiq3; simp only [List.length_set, List.length_cons, List.length_nil]; omega
                                  refine Run.stZ X23 hx hZ e23 A_qa (i := iq3) hiq3 hib3 (z' := (1 : Int32)) (by decide) (hb hby d7_63) ?_
                                  intro T24 h24 X24 e24 W24 A24
                                  replace A_qa : Ars Z h24 qa .boolean (((([(.int (0 : Int32)), (.int (0 : Int32)), (.int (0 : Int32)), (.int (0 : Int32))].set iq0 (Value.int (1 : Int32))).set iq1 (Value.int (1 : Int32))).set iq2 (Value.int (1 : Int32))).set iq3 (Value.int (1 : Int32))) := A24
                                  have N24 := Fr.snoc X24 N20 g_qa
                                  have Z24 : n0 ≤ h24.size := Nat.le_trans Z20 (Nat.le_of_eq W24.size.symm)
                                  show Run p e below s _ _ _ (T24.setTop (mkF m 64 #[.val (.ref this), .val (.ref seg), .val (.int (388 : Int32)), .val (.int y3), .val (.int (y3 &&& (15 : Int32)))] []))
                                  refine Run.x_goto (q := 2) X24 hx (hb hby d7_64) (by decide) (by decide) ?_
                                  refine Run.x_iloadN (q := 3) X24 hx (hb hby d7_2) rfl rfl ?_
                                  refine Run.x_aloadN (q := 4) X24 hx (hb hby d7_3) rfl rfl rfl ?_
                                  replace A_seg := A_seg.other W24 ne_seg_qa
                                  refine Run.alen X24 hx hZ e24 A_seg (z := ll) hln (hb hby d7_4) ?_
                                  show Run p e below s _ _ _ (T24.setTop (mkF m 5 #[.val (.ref this), .val (.ref seg), .val (.int (388 : Int32)), .val (.int y3), .val (.int (y3 &&& (15 : Int32)))] [(.int ll), (.int (388 : Int32))]))
                                  have hend : ¬ (388 : Int32) < ll := by rw [lt32]; have k : (388 : Int32).toInt = 388 := rfl; omega
                                  refine Run.x_icmpYes (q := 67) X24 hx (hb hby d7_5) (flt hend).2.1 (by decide) (by decide) ?_
                                  refine Run.x_iconst (q := 68) X24 hx (hb hby d7_67) (z := (1 : Int32)) rfl rfl ?_
                                  replace E_this := (((E_this.wr W2).wr W18).wr W20).wr W24
                                  replace F_this_quantisation := F_this_quantisation.other W24 (Or.inl ne_this_qa)
                                  refine Run.retN X24 hx hlk e24 (t := .boolean) hret (by simp) (z' := (1 : Int32)) (by decide) (hb hby d7_68) (by decide) (by decide) ?_
                                  have kk : (0 : Int32).toInt = 0 ∧ (65 : Int32).toInt = 65 ∧ (194 : Int32).toInt = 194 ∧ (259 : Int32).toInt = 259 ∧ (388 : Int32).toInt = 388 ∧ (4 : Int32).toInt = 4 := by decide
                                  have hle3 : (388 : Int) ≤ ll.toInt := by have q := hc51'''; rw [lt32] at q; omega
                                  have hle2 : (259 : Int) ≤ ll.toInt := by have q := hc51''; rw [lt32] at q; omega
                                  have hle1 : (194 : Int) ≤ ll.toInt := by have q := hc51'; rw [lt32] at q; omega
                                  have hle0 : (65 : Int) ≤ ll.toInt := by have q := hc51; rw [lt32] at q; omega
                                  exact PureK_mk ((own_b1 (own_rd_step ((own_n4 y0).mp hc45) (by rw [hs0]; rfl : (0 : Int) + 1 + own_sz y0 = 65) hle0 (own_rd_step ((own_n4 y1).mp hc45') (by rw [hs1]; rfl : (65 : Int) + 1 + own_sz y1 = 194) hle1 (own_rd_step ((own_n4 y2).mp hc45'') (by rw [hs2]; rfl : (194 : Int) + 1 + own_sz y2 = 259) hle2 (own_rd_step ((own_n4 y3).mp hc45''') (by rw [hs3]; rfl : (259 : Int) + 1 + own_sz y3 = 388) hle3 own_rd0))))).symm) N24
                              · skip
                                refine Run.x_icmpYes (q := 54) X20 hx (hb hby d7_45) (flt hc45''').2.1 (by decide) (by decide) ?_
                                refine Run.x_iconst (q := 55) X20 hx (hb hby d7_54) (z := (0 : Int32)) rfl rfl ?_
                                replace E_this := ((E_this.wr W2).wr W18).wr W20
                                replace F_this_quantisation := F_this_quantisation.other W20 (Or.inl ne_this_qa)
                                refine Run.retN X20 hx hlk e20 (t := .boolean) hret (by simp) (z' := (0 : Int32)) (by decide) (hb hby d7_55) (by decide) (by decide) ?_
                                have kk : (0 : Int32).toInt = 0 ∧ (65 : Int32).toInt = 65 ∧ (194 : Int32).toInt = 194 ∧ (259 : Int32).toInt = 259 ∧ (388 : Int32).toInt = 388 ∧ (4 : Int32).toInt = 4 := by decide
                                have hne3 : ¬ (259 : Int) = ll.toInt := by have q := hc5'''; rw [lt32] at q; omega
                                have hne2 : ¬ (194 : Int) = ll.toInt := by have q := hc5''; rw [lt32] at q; omega
                                have hne1 : ¬ (65 : Int) = ll.toInt := by have q := hc5'; rw [lt32] at q; omega
                                have hne0 : ¬ (0 : Int) = ll.toInt := by have q := hc5; rw [lt32] at q; omega
                                exact PureK_mk ((own_b0 (own_rd_bk hne0 (by rw [hs0]; rfl : (0 : Int) + 1 + own_sz y0 = 65) (own_rd_bk hne1 (by rw [hs1]; rfl : (65 : Int) + 1 + own_sz y1 = 194) (own_rd_bk hne2 (by rw [hs2]; rfl : (194 : Int) + 1 + own_sz y2 = 259) (own_rd_no1 hne3 (mt (own_n4 y3).mpr hc45''')))))).symm) N20
                          · skip
                            refine Run.x_icmpYes (q := 67) X20 hx (hb hby d7_5) (flt hc5''').2.1 (by decide) (by decide) ?_
                            refine Run.x_iconst (q := 68) X20 hx (hb hby d7_67) (z := (1 : Int32)) rfl rfl ?_
                            replace E_this := ((E_this.wr W2).wr W18).wr W20
                            replace F_this_quantisation := F_this_quantisation.other W20 (Or.inl ne_this_qa)
                            refine Run.retN X20 hx hlk e20 (t := .boolean) hret (by simp) (z' := (1 : Int32)) (by decide) (hb hby d7_68) (by decide) (by decide) ?_
                            have kk : (0 : Int32).toInt = 0 ∧ (65 : Int32).toInt = 65 ∧ (194 : Int32).toInt = 194 ∧ (259 : Int32).toInt = 259 ∧ (4 : Int32).toInt = 4 := by decide
                            have heq : (259 : Int) = ll.toInt := by have q := hc5'''; rw [lt32] at q; have q2 := hc51''; rw [lt32] at q2; omega
                            have hle2 : (259 : Int) ≤ ll.toInt := by have q := hc51''; rw [lt32] at q; omega
                            have hle1 : (194 : Int) ≤ ll.toInt := by have q := hc51'; rw [lt32] at q; omega
                            have hle0 : (65 : Int) ≤ ll.toInt := by have q := hc51; rw [lt32] at q; omega
                            exact PureK_mk ((own_b1 (own_rd_step ((own_n4 y0).mp hc45) (by rw [hs0]; rfl : (0 : Int) + 1 + own_sz y0 = 65) hle0 (own_rd_step ((own_n4 y1).mp hc45') (by rw [hs1]; rfl : (65 : Int) + 1 + own_sz y1 = 194) hle1 (own_rd_step ((own_n4 y2).mp hc45'') (by rw [hs2]; rfl : (194 : Int) + 1 + own_sz y2 = 259) hle2 (own_rd_eq heq))))).symm) N20
                      · skip
                        refine Run.x_icmpYes (q := 54) X18 hx (hb hby d7_45) (flt hc45'').2.1 (by decide) (by decide) ?_
                        refine Run.x_iconst (q := 55) X18 hx (hb hby d7_54) (z := (0 : Int32)) rfl rfl ?_
                        replace E_this := (E_this.wr W2).wr W18
                        replace F_this_quantisation := F_this_quantisation.other W18 (Or.inl ne_this_qa)
                        refine Run.retN X18 hx hlk e18 (t := .boolean) hret (by simp) (z' := (0 : Int32)) (by decide) (hb hby d7_55) (by decide) (by decide) ?_
                        have kk : (0 : Int32).toInt = 0 ∧ (65 : Int32).toInt = 65 ∧ (194 : Int32).toInt = 194 ∧ (259 : Int32).toInt = 259 ∧ (4 : Int32).toInt = 4 := by decide
                        have hne2 : ¬ (194 : Int) = ll.toInt := by have q := hc5''; rw [lt32] at q; omega
                        have hne1 : ¬ (65 : Int) = ll.toInt := by have q := hc5'; rw [lt32] at q; omega
                        have hne0 : ¬ (0 : Int) = ll.toInt := by have q := hc5; rw [lt32] at q; omega
                        exact PureK_mk ((own_b0 (own_rd_bk hne0 (by rw [hs0]; rfl : (0 : Int) + 1 + own_sz y0 = 65) (own_rd_bk hne1 (by rw [hs1]; rfl : (65 : Int) + 1 + own_sz y1 = 194) (own_rd_no1 hne2 (mt (own_n4 y2).mpr hc45''))))).symm) N18
                    · have hs2 := own_s16' hk2
                      refine Run.x_ifYes (q := 37) X18 hx (hb hby d7_29) ((if0 _ _).trans (feq (mt (own_sh4 hy2.1 hy2.2).mp hk2)).2) (by decide) (by decide) ?_
                      refine Run.x_sipush (q := 40) X18 hx (hb hby d7_37) (z := (128 : Int32)) rfl rfl ?_
                      refine Run.x_iadd (q := 41) X18 hx (hb hby d7_40) (z := (323 : Int32)) (by decide) rfl ?_
                      refine Run.x_istoreN (q := 42) X18 hx #[.val (.ref this), .val (.ref seg), .val (.int (323 : Int32)), .val (.int y2), .val (.int (y2 &&& (15 : Int32)))] (hb hby d7_41) rfl rfl ?_
                      refine Run.x_iload (q := 44) X18 hx (hb hby d7_42) rfl rfl ?_
                      refine Run.x_iconst (q := 45) X18 hx (hb hby d7_44) (z := (4 : Int32)) rfl rfl ?_
                      by_cases hc45'' : (y2 &&& (15 : Int32)) < (4 : Int32)
                      · skip
                        refine Run.x_icmpNo (q := 48) X18 hx (hb hby d7_45) (tlt hc45'').2.1 rfl ?_
                        refine Run.x_iloadN (q := 49) X18 hx (hb hby d7_48) rfl rfl ?_
                        refine Run.x_aloadN (q := 50) X18 hx (hb hby d7_49) rfl rfl rfl ?_
                        refine Run.alen X18 hx hZ e18 A_seg (z := ll) hln (hb hby d7_50) ?_
                        show Run p e below s _ _ _ (T18.setTop (mkF m 51 #[.val (.ref this), .val (.ref seg), .val (.int (323 : Int32)), .val (.int y2), .val (.int (y2 &&& (15 : Int32)))] [(.int ll), (.int (323 : Int32))]))
                        by_cases hc51'' : ll < (323 : Int32)
                        · skip
                          refine Run.x_icmpNo (q := 54) X18 hx (hb hby d7_51) (tlt hc51'').2.2.2 rfl ?_
                          refine Run.x_iconst (q := 55) X18 hx (hb hby d7_54) (z := (0 : Int32)) rfl rfl ?_
                          replace E_this := (E_this.wr W2).wr W18
                          replace F_this_quantisation := F_this_quantisation.other W18 (Or.inl ne_this_qa)
                          refine Run.retN X18 hx hlk e18 (t := .boolean) hret (by simp) (z' := (0 : Int32)) (by decide) (hb hby d7_55) (by decide) (by decide) ?_
                          have kk : (0 : Int32).toInt = 0 ∧ (65 : Int32).toInt = 65 ∧ (194 : Int32).toInt = 194 ∧ (323 : Int32).toInt = 323 ∧ (4 : Int32).toInt = 4 := by decide
                          have hgt : ¬ (323 : Int) ≤ ll.toInt := by have q := hc51''; rw [lt32] at q; omega
                          have hne2 : ¬ (194 : Int) = ll.toInt := by have q := hc5''; rw [lt32] at q; omega
                          have hne1 : ¬ (65 : Int) = ll.toInt := by have q := hc5'; rw [lt32] at q; omega
                          have hne0 : ¬ (0 : Int) = ll.toInt := by have q := hc5; rw [lt32] at q; omega
                          exact PureK_mk ((own_b0 (own_rd_bk hne0 (by rw [hs0]; rfl : (0 : Int) + 1 + own_sz y0 = 65) (own_rd_bk hne1 (by rw [hs1]; rfl : (65 : Int) + 1 + own_sz y1 = 194) (own_rd_no2 hne2 (by rw [hs2]; rfl : (194 : Int) + 1 + own_sz y2 = 323) hgt)))).symm) N18
                        · skip
                          refine Run.x_icmpYes (q := 56) X18 hx (hb hby d7_51) (flt hc51'').2.2.2 (by decide) (by decide) ?_
                          refine Run.x_aloadN (q := 57) X18 hx (hb hby d7_56) rfl rfl rfl ?_
                          replace F_this_quantisation := F_this_quantisation.other W18 (Or.inl ne_this_qa)
                          obtain ⟨T25, X25, e25, st25⟩ := getF X18 hx hZ hown (host := "") (Or.inl (hw _ (List.mem_of_getElem? (i := 22) rfl))) Via.refl e18 F_this_quantisation (g := (mkF m 57 #[.val (.ref this), .val (.ref seg), .val (.int (323 : Int32)), .val (.int y2), .val (.int (y2 &&& (15 : Int32)))] [(.ref this)])) rfl rfl (hb hby d7_57)
                          refine Run.st st25 ?_
                          show Run p e below s _ _ _ (T25.setTop (mkF m 60 #[.val (.ref this), .val (.ref seg), .val (.int (323 : Int32)), .val (.int y2), .val (.int (y2 &&& (15 : Int32)))] [(.ref qa)]))
                          refine Run.x_iload (q := 62) X25 hx (hb hby d7_60) rfl rfl ?_
                          refine Run.x_iconst (q := 63) X25 hx (hb hby d7_62) (z := (1 : Int32)) rfl rfl ?_
                          have hj63 := own_n15 y2
                          obtain ⟨iq2, hiq2⟩ : ∃ i : Nat, (y2 &&& (15 : Int32)).toInt = i := ⟨(y2 &&& (15 : Int32)).toInt.toNat, by omega⟩
                          have hib2 : iq2 < ((([(.int (0 : Int32)), (.int (0 : Int32)), (.int (0 : Int32)), (.int (0 : Int32))].set iq0 (Value.int (1 : Int32))).set iq1 (Value.int (1 : Int32))) : List Value).length := by
                            have q4 := hc45''; rw [lt32] at q4; have k4 : (4 : Int32).toInt = 4 := rfl; have hh := hiq2; simp only [List.length_set, List.length_cons, List.length_nil]; omega
                          refine Run.stZ X25 hx hZ e25 A_qa (i := iq2) hiq2 hib2 (z' := (1 : Int32)) (by decide) (hb hby d7_63) ?_
                          intro T26 h26 X26 e26 W26 A26
                          replace A_qa : Ars Z h26 qa .boolean ((([(.int (0 : Int32)), (.int (0 : Int32)), (.int (0 : Int32)), (.int (0 : Int32))].set iq0 (Value.int (1 : Int32))).set iq1 (Value.int (1 : Int32))).set iq2 (Value.int (1 : Int32))) := A26
                          have N26 := Fr.snoc X26 N18 g_qa
                          have Z26 : n0 ≤ h26.size := Nat.le_trans Z18 (Nat.le_of_eq W26.size.symm)
                          show Run p e below s _ _ _ (T26.setTop (mkF m 64 #[.val (.ref this), .val (.ref seg), .val (.int (323 : Int32)), .val (.int y2), .val (.int (y2 &&& (15 : Int32)))] []))
                          refine Run.x_goto (q := 2) X26 hx (hb hby d7_64) (by decide) (by decide) ?_
                          refine Run.x_iloadN (q := 3) X26 hx (hb hby d7_2) rfl rfl ?_
                          refine Run.x_aloadN (q := 4) X26 hx (hb hby d7_3) rfl rfl rfl ?_
                          replace A_seg := A_seg.other W26 ne_seg_qa
                          refine Run.alen X26 hx hZ e26 A_seg (z := ll) hln (hb hby d7_4) ?_
                          show Run p e below s _ _ _ (T26.setTop (mkF m 5 #[.val (.ref this), .val (.ref seg), .val (.int (323 : Int32)), .val (.int y2), .val (.int (y2 &&& (15 : Int32)))] [(.int ll), (.int (323 : Int32))]))
                          by_cases hc5''' : (323 : Int32) < ll
                          · skip
                            refine Run.x_icmpNo (q := 8) X26 hx (hb hby d7_5) (tlt hc5''').2.1 rfl ?_
                            refine Run.x_aloadN (q := 9) X26 hx (hb hby d7_8) rfl rfl rfl ?_
                            refine Run.x_iloadN (q := 10) X26 hx (hb hby d7_9) rfl rfl ?_
                            refine Run.x_iinc (q := 13) X26 hx #[.val (.ref this), .val (.ref seg), .val (.int (324 : Int32)), .val (.int y2), .val (.int (y2 &&& (15 : Int32)))] (hb hby d7_10) rfl (z := (324 : Int32)) (by decide) rfl rfl ?_
                            have hlt3 : 323 < vs.length := by have q := hc5'''; rw [lt32] at q; have k : (323 : Int32).toInt = 323 := rfl; omega
                            have hel3 := hq3 323 (by rw [hs0, hs1, hs2]; rfl) hlt3
                            refine Run.ldB X26 hx hZ e26 A_seg (i := 323) (v := (.int y3.toInt8.toInt32)) (by decide) hel3 (hb hby d7_13) ?_
                            show Run p e below s _ _ _ (T26.setTop (mkF m 14 #[.val (.ref this), .val (.ref seg), .val (.int (324 : Int32)), .val (.int y2), .val (.int (y2 &&& (15 : Int32)))] [(.int y3.toInt8.toInt32)]))
                            refine Run.x_sipush (q := 17) X26 hx (hb hby d7_14) (z := (255 : Int32)) rfl rfl ?_
                            refine Run.x_iand (q := 18) X26 hx (hb hby d7_17) rfl rfl ?_
                            rw [own_back hy3.1 hy3.2]
                            show Run p e below s _ _ _ (T26.setTop (mkF m 18 #[.val (.ref this), .val (.ref seg), .val (.int (324 : Int32)), .val (.int y2), .val (.int (y2 &&& (15 : Int32)))] [(.int y3)]))
                            refine Run.x_istoreN (q := 19) X26 hx #[.val (.ref this), .val (.ref seg), .val (.int (324 : Int32)), .val (.int y3), .val (.int (y2 &&& (15 : Int32)))] (hb hby d7_18) rfl rfl ?_
                            refine Run.x_iloadN (q := 20) X26 hx (hb hby d7_19) rfl rfl ?_
                            refine Run.x_bipush (q := 22) X26 hx (hb hby d7_20) (z := (15 : Int32)) rfl rfl ?_
                            refine Run.x_iand (q := 23) X26 hx (hb hby d7_22) rfl rfl ?_
                            refine Run.x_istore (q := 25) X26 hx #[.val (.ref this), .val (.ref seg), .val (.int (324 : Int32)), .val (.int y3), .val (.int (y3 &&& (15 : Int32)))] (hb hby d7_23) rfl rfl ?_
                            refine Run.x_iloadN (q := 26) X26 hx (hb hby d7_25) rfl rfl ?_
                            refine Run.x_iloadN (q := 27) X26 hx (hb hby d7_26) rfl rfl ?_
                            refine Run.x_iconst (q := 28) X26 hx (hb hby d7_27) (z := (4 : Int32)) rfl rfl ?_
                            refine Run.x_ishr (q := 29) X26 hx (hb hby d7_28) rfl rfl ?_
                            by_cases hk3 : y3 < 16
                            · have hs3 := own_s16 hk3
                              refine Run.x_ifNo (q := 32) X26 hx (hb hby d7_29) ((if0 _ _).trans (teq ((own_sh4 hy3.1 hy3.2).mpr hk3)).2) rfl ?_
                              refine Run.x_bipush (q := 34) X26 hx (hb hby d7_32) (z := (64 : Int32)) rfl rfl ?_
                              refine Run.x_goto (q := 40) X26 hx (hb hby d7_34) (by decide) (by decide) ?_
                              refine Run.x_iadd (q := 41) X26 hx (hb hby d7_40) (z := (388 : Int32)) (by decide) rfl ?_
                              refine Run.x_istoreN (q := 42) X26 hx #[.val (.ref this), .val (.ref seg), .val (.int (388 : Int32)), .val (.int y3), .val (.int (y3 &&& (15 : Int32)))] (hb hby d7_41) rfl rfl ?_
                              refine Run.x_iload (q := 44) X26 hx (hb hby d7_42) rfl rfl ?_
                              refine Run.x_iconst (q := 45) X26 hx (hb hby d7_44) (z := (4 : Int32)) rfl rfl ?_
                              by_cases hc45''' : (y3 &&& (15 : Int32)) < (4 : Int32)
                              · skip
                                refine Run.x_icmpNo (q := 48) X26 hx (hb hby d7_45) (tlt hc45''').2.1 rfl ?_
                                refine Run.x_iloadN (q := 49) X26 hx (hb hby d7_48) rfl rfl ?_
                                refine Run.x_aloadN (q := 50) X26 hx (hb hby d7_49) rfl rfl rfl ?_
                                refine Run.alen X26 hx hZ e26 A_seg (z := ll) hln (hb hby d7_50) ?_
                                show Run p e below s _ _ _ (T26.setTop (mkF m 51 #[.val (.ref this), .val (.ref seg), .val (.int (388 : Int32)), .val (.int y3), .val (.int (y3 &&& (15 : Int32)))] [(.int ll), (.int (388 : Int32))]))
                                by_cases hc51''' : ll < (388 : Int32)
                                · skip
                                  refine Run.x_icmpNo (q := 54) X26 hx (hb hby d7_51) (tlt hc51''').2.2.2 rfl ?_
                                  refine Run.x_iconst (q := 55) X26 hx (hb hby d7_54) (z := (0 : Int32)) rfl rfl ?_
                                  replace E_this := ((E_this.wr W2).wr W18).wr W26
                                  replace F_this_quantisation := F_this_quantisation.other W26 (Or.inl ne_this_qa)
                                  refine Run.retN X26 hx hlk e26 (t := .boolean) hret (by simp) (z' := (0 : Int32)) (by decide) (hb hby d7_55) (by decide) (by decide) ?_
                                  have kk : (0 : Int32).toInt = 0 ∧ (65 : Int32).toInt = 65 ∧ (194 : Int32).toInt = 194 ∧ (323 : Int32).toInt = 323 ∧ (388 : Int32).toInt = 388 ∧ (4 : Int32).toInt = 4 := by decide
                                  have hgt : ¬ (388 : Int) ≤ ll.toInt := by have q := hc51'''; rw [lt32] at q; omega
                                  have hne3 : ¬ (323 : Int) = ll.toInt := by have q := hc5'''; rw [lt32] at q; omega
                                  have hne2 : ¬ (194 : Int) = ll.toInt := by have q := hc5''; rw [lt32] at q; omega
                                  have hne1 : ¬ (65 : Int) = ll.toInt := by have q := hc5'; rw [lt32] at q; omega
                                  have hne0 : ¬ (0 : Int) = ll.toInt := by have q := hc5; rw [lt32] at q; omega
                                  exact PureK_mk ((own_b0 (own_rd_bk hne0 (by rw [hs0]; rfl : (0 : Int) + 1 + own_sz y0 = 65) (own_rd_bk hne1 (by rw [hs1]; rfl : (65 : Int) + 1 + own_sz y1 = 194) (own_rd_bk hne2 (by rw [hs2]; rfl : (194 : Int) + 1 + own_sz y2 = 323) (own_rd_no2 hne3 (by rw [hs3]; rfl : (323 : Int) + 1 + own_sz y3 = 388) hgt))))).symm) N26
                                · skip
                                  refine Run.x_icmpYes (q := 56) X26 hx (hb hby d7_51) (flt hc51''').2.2.2 (by decide) (by decide) ?_
                                  refine Run.x_aloadN (q := 57) X26 hx (hb hby d7_56) rfl rfl rfl ?_
                                  replace F_this_quantisation := F_this_quantisation.other W26 (Or.inl ne_this_qa)
                                  obtain ⟨T27, X27, e27, st27⟩ := getF X26 hx hZ hown (host := "") (Or.inl (hw _ (List.mem_of_getElem? (i := 22) rfl))) Via.refl e26 F_this_quantisation (g := (mkF m 57 #[.val (.ref this), .val (.ref seg), .val (.int (388 : Int32)), .val (.int y3), .val (.int (y3 &&& (15 : Int32)))] [(.ref this)])) rfl rfl (hb hby d7_57)
                                  refine Run.st st27 ?_
                                  show Run p e below s _ _ _ (T27.setTop (mkF m 60 #[.val (.ref this), .val (.ref seg), .val (.int (388 : Int32)), .val (.int y3), .val (.int (y3 &&& (15 : Int32)))] [(.ref qa)]))
                                  refine Run.x_iload (q := 62) X27 hx (hb hby d7_60) rfl rfl ?_
                                  refine Run.x_iconst (q := 63) X27 hx (hb hby d7_62) (z := (1 : Int32)) rfl rfl ?_
                                  have hj63 := own_n15 y3
                                  obtain ⟨iq3, hiq3⟩ : ∃ i : Nat, (y3 &&& (15 : Int32)).toInt = i := ⟨(y3 &&& (15 : Int32)).toInt.toNat, by omega⟩
                                  have hib3 : iq3 < (((([(.int (0 : Int32)), (.int (0 : Int32)), (.int (0 : Int32)), (.int (0 : Int32))].set iq0 (Value.int (1 : Int32))).set iq1 (Value.int (1 : Int32))).set iq2 (Value.int (1 : Int32))) : List Value).length := by
                                    have q4 := hc45'''; rw [lt32] at q4; have k4 : (4 : Int32).toInt = 4 := rfl; have hh := hiq3; simp only [List.length_set, List.length_cons, List.length_nil]; omega
                                  refine Run.stZ X27 hx hZ e27 A_qa (i := iq3) hiq3 hib3 (z' := (1 : Int32)) (by decide) (hb hby d7_63) ?_
                                  intro T28 h28 X28 e28 W28 A28
                                  replace A_qa : Ars Z h28 qa .boolean (((([(.int (0 : Int32)), (.int (0 : Int32)), (.int (0 : Int32)), (.int (0 : Int32))].set iq0 (Value.int (1 : Int32))).set iq1 (Value.int (1 : Int32))).set iq2 (Value.int (1 : Int32))).set iq3 (Value.int (1 : Int32))) := A28
                                  have N28 := Fr.snoc X28 N26 g_qa
                                  have Z28 : n0 ≤ h28.size := Nat.le_trans Z26 (Nat.le_of_eq W28.size.symm)
                                  show Run p e below s _ _ _ (T28.setTop (mkF m 64 #[.val (.ref this), .val (.ref seg), .val (.int (388 : Int32)), .val (.int y3), .val (.int (y3 &&& (15 : Int32)))] []))
                                  refine Run.x_goto (q := 2) X28 hx (hb hby d7_64) (by decide) (by decide) ?_
                                  refine Run.x_iloadN (q := 3) X28 hx (hb hby d7_2) rfl rfl ?_
                                  refine Run.x_aloadN (q := 4) X28 hx (hb hby d7_3) rfl rfl rfl ?_
                                  replace A_seg := A_seg.other W28 ne_seg_qa
                                  refine Run.alen X28 hx hZ e28 A_seg (z := ll) hln (hb hby d7_4) ?_
                                  show Run p e below s _ _ _ (T28.setTop (mkF m 5 #[.val (.ref this), .val (.ref seg), .val (.int (388 : Int32)), .val (.int y3), .val (.int (y3 &&& (15 : Int32)))] [(.int ll), (.int (388 : Int32))]))
                                  have hend : ¬ (388 : Int32) < ll := by rw [lt32]; have k : (388 : Int32).toInt = 388 := rfl; omega
                                  refine Run.x_icmpYes (q := 67) X28 hx (hb hby d7_5) (flt hend).2.1 (by decide) (by decide) ?_
                                  refine Run.x_iconst (q := 68) X28 hx (hb hby d7_67) (z := (1 : Int32)) rfl rfl ?_
                                  replace E_this := (((E_this.wr W2).wr W18).wr W26).wr W28
                                  replace F_this_quantisation := F_this_quantisation.other W28 (Or.inl ne_this_qa)
                                  refine Run.retN X28 hx hlk e28 (t := .boolean) hret (by simp) (z' := (1 : Int32)) (by decide) (hb hby d7_68) (by decide) (by decide) ?_
                                  have kk : (0 : Int32).toInt = 0 ∧ (65 : Int32).toInt = 65 ∧ (194 : Int32).toInt = 194 ∧ (323 : Int32).toInt = 323 ∧ (388 : Int32).toInt = 388 ∧ (4 : Int32).toInt = 4 := by decide
                                  have hle3 : (388 : Int) ≤ ll.toInt := by have q := hc51'''; rw [lt32] at q; omega
                                  have hle2 : (323 : Int) ≤ ll.toInt := by have q := hc51''; rw [lt32] at q; omega
                                  have hle1 : (194 : Int) ≤ ll.toInt := by have q := hc51'; rw [lt32] at q; omega
                                  have hle0 : (65 : Int) ≤ ll.toInt := by have q := hc51; rw [lt32] at q; omega
                                  exact PureK_mk ((own_b1 (own_rd_step ((own_n4 y0).mp hc45) (by rw [hs0]; rfl : (0 : Int) + 1 + own_sz y0 = 65) hle0 (own_rd_step ((own_n4 y1).mp hc45') (by rw [hs1]; rfl : (65 : Int) + 1 + own_sz y1 = 194) hle1 (own_rd_step ((own_n4 y2).mp hc45'') (by rw [hs2]; rfl : (194 : Int) + 1 + own_sz y2 = 323) hle2 (own_rd_step ((own_n4 y3).mp hc45''') (by rw [hs3]; rfl : (323 : Int) + 1 + own_sz y3 = 388) hle3 own_rd0))))).symm) N28
                              · skip
                                refine Run.x_icmpYes (q := 54) X26 hx (hb hby d7_45) (flt hc45''').2.1 (by decide) (by decide) ?_
                                refine Run.x_iconst (q := 55) X26 hx (hb hby d7_54) (z := (0 : Int32)) rfl rfl ?_
                                replace E_this := ((E_this.wr W2).wr W18).wr W26
                                replace F_this_quantisation := F_this_quantisation.other W26 (Or.inl ne_this_qa)
                                refine Run.retN X26 hx hlk e26 (t := .boolean) hret (by simp) (z' := (0 : Int32)) (by decide) (hb hby d7_55) (by decide) (by decide) ?_
                                have kk : (0 : Int32).toInt = 0 ∧ (65 : Int32).toInt = 65 ∧ (194 : Int32).toInt = 194 ∧ (323 : Int32).toInt = 323 ∧ (388 : Int32).toInt = 388 ∧ (4 : Int32).toInt = 4 := by decide
                                have hne3 : ¬ (323 : Int) = ll.toInt := by have q := hc5'''; rw [lt32] at q; omega
                                have hne2 : ¬ (194 : Int) = ll.toInt := by have q := hc5''; rw [lt32] at q; omega
                                have hne1 : ¬ (65 : Int) = ll.toInt := by have q := hc5'; rw [lt32] at q; omega
                                have hne0 : ¬ (0 : Int) = ll.toInt := by have q := hc5; rw [lt32] at q; omega
                                exact PureK_mk ((own_b0 (own_rd_bk hne0 (by rw [hs0]; rfl : (0 : Int) + 1 + own_sz y0 = 65) (own_rd_bk hne1 (by rw [hs1]; rfl : (65 : Int) + 1 + own_sz y1 = 194) (own_rd_bk hne2 (by rw [hs2]; rfl : (194 : Int) + 1 + own_sz y2 = 323) (own_rd_no1 hne3 (mt (own_n4 y3).mpr hc45''')))))).symm) N26
                            · have hs3 := own_s16' hk3
                              refine Run.x_ifYes (q := 37) X26 hx (hb hby d7_29) ((if0 _ _).trans (feq (mt (own_sh4 hy3.1 hy3.2).mp hk3)).2) (by decide) (by decide) ?_
                              refine Run.x_sipush (q := 40) X26 hx (hb hby d7_37) (z := (128 : Int32)) rfl rfl ?_
                              refine Run.x_iadd (q := 41) X26 hx (hb hby d7_40) (z := (452 : Int32)) (by decide) rfl ?_
                              refine Run.x_istoreN (q := 42) X26 hx #[.val (.ref this), .val (.ref seg), .val (.int (452 : Int32)), .val (.int y3), .val (.int (y3 &&& (15 : Int32)))] (hb hby d7_41) rfl rfl ?_
                              refine Run.x_iload (q := 44) X26 hx (hb hby d7_42) rfl rfl ?_
                              refine Run.x_iconst (q := 45) X26 hx (hb hby d7_44) (z := (4 : Int32)) rfl rfl ?_
                              by_cases hc45''' : (y3 &&& (15 : Int32)) < (4 : Int32)
                              · skip
                                refine Run.x_icmpNo (q := 48) X26 hx (hb hby d7_45) (tlt hc45''').2.1 rfl ?_
                                refine Run.x_iloadN (q := 49) X26 hx (hb hby d7_48) rfl rfl ?_
                                refine Run.x_aloadN (q := 50) X26 hx (hb hby d7_49) rfl rfl rfl ?_
                                refine Run.alen X26 hx hZ e26 A_seg (z := ll) hln (hb hby d7_50) ?_
                                show Run p e below s _ _ _ (T26.setTop (mkF m 51 #[.val (.ref this), .val (.ref seg), .val (.int (452 : Int32)), .val (.int y3), .val (.int (y3 &&& (15 : Int32)))] [(.int ll), (.int (452 : Int32))]))
                                by_cases hc51''' : ll < (452 : Int32)
                                · skip
                                  refine Run.x_icmpNo (q := 54) X26 hx (hb hby d7_51) (tlt hc51''').2.2.2 rfl ?_
                                  refine Run.x_iconst (q := 55) X26 hx (hb hby d7_54) (z := (0 : Int32)) rfl rfl ?_
                                  replace E_this := ((E_this.wr W2).wr W18).wr W26
                                  replace F_this_quantisation := F_this_quantisation.other W26 (Or.inl ne_this_qa)
                                  refine Run.retN X26 hx hlk e26 (t := .boolean) hret (by simp) (z' := (0 : Int32)) (by decide) (hb hby d7_55) (by decide) (by decide) ?_
                                  have kk : (0 : Int32).toInt = 0 ∧ (65 : Int32).toInt = 65 ∧ (194 : Int32).toInt = 194 ∧ (323 : Int32).toInt = 323 ∧ (452 : Int32).toInt = 452 ∧ (4 : Int32).toInt = 4 := by decide
                                  have hgt : ¬ (452 : Int) ≤ ll.toInt := by have q := hc51'''; rw [lt32] at q; omega
                                  have hne3 : ¬ (323 : Int) = ll.toInt := by have q := hc5'''; rw [lt32] at q; omega
                                  have hne2 : ¬ (194 : Int) = ll.toInt := by have q := hc5''; rw [lt32] at q; omega
                                  have hne1 : ¬ (65 : Int) = ll.toInt := by have q := hc5'; rw [lt32] at q; omega
                                  have hne0 : ¬ (0 : Int) = ll.toInt := by have q := hc5; rw [lt32] at q; omega
                                  exact PureK_mk ((own_b0 (own_rd_bk hne0 (by rw [hs0]; rfl : (0 : Int) + 1 + own_sz y0 = 65) (own_rd_bk hne1 (by rw [hs1]; rfl : (65 : Int) + 1 + own_sz y1 = 194) (own_rd_bk hne2 (by rw [hs2]; rfl : (194 : Int) + 1 + own_sz y2 = 323) (own_rd_no2 hne3 (by rw [hs3]; rfl : (323 : Int) + 1 + own_sz y3 = 452) hgt))))).symm) N26
                                · skip
                                  refine Run.x_icmpYes (q := 56) X26 hx (hb hby d7_51) (flt hc51''').2.2.2 (by decide) (by decide) ?_
                                  refine Run.x_aloadN (q := 57) X26 hx (hb hby d7_56) rfl rfl rfl ?_
                                  replace F_this_quantisation := F_this_quantisation.other W26 (Or.inl ne_this_qa)
                                  obtain ⟨T29, X29, e29, st29⟩ := getF X26 hx hZ hown (host := "") (Or.inl (hw _ (List.mem_of_getElem? (i := 22) rfl))) Via.refl e26 F_this_quantisation (g := (mkF m 57 #[.val (.ref this), .val (.ref seg), .val (.int (452 : Int32)), .val (.int y3), .val (.int (y3 &&& (15 : Int32)))] [(.ref this)])) rfl rfl (hb hby d7_57)
                                  refine Run.st st29 ?_
                                  show Run p e below s _ _ _ (T29.setTop (mkF m 60 #[.val (.ref this), .val (.ref seg), .val (.int (452 : Int32)), .val (.int y3), .val (.int (y3 &&& (15 : Int32)))] [(.ref qa)]))
                                  refine Run.x_iload (q := 62) X29 hx (hb hby d7_60) rfl rfl ?_
                                  refine Run.x_iconst (q := 63) X29 hx (hb hby d7_62) (z := (1 : Int32)) rfl rfl ?_
                                  have hj63 := own_n15 y3
                                  obtain ⟨iq3, hiq3⟩ : ∃ i : Nat, (y3 &&& (15 : Int32)).toInt = i := ⟨(y3 &&& (15 : Int32)).toInt.toNat, by omega⟩
                                  have hib3 : iq3 < (((([(.int (0 : Int32)), (.int (0 : Int32)), (.int (0 : Int32)), (.int (0 : Int32))].set iq0 (Value.int (1 : Int32))).set iq1 (Value.int (1 : Int32))).set iq2 (Value.int (1 : Int32))) : List Value).length := by
                                    have q4 := hc45'''; rw [lt32] at q4; have k4 : (4 : Int32).toInt = 4 := rfl; have hh := hiq3; simp only [List.length_set, List.length_cons, List.length_nil]; omega
                                  refine Run.stZ X29 hx hZ e29 A_qa (i := iq3) hiq3 hib3 (z' := (1 : Int32)) (by decide) (hb hby d7_63) ?_
                                  intro T30 h30 X30 e30 W30 A30
                                  replace A_qa : Ars Z h30 qa .boolean (((([(.int (0 : Int32)), (.int (0 : Int32)), (.int (0 : Int32)), (.int (0 : Int32))].set iq0 (Value.int (1 : Int32))).set iq1 (Value.int (1 : Int32))).set iq2 (Value.int (1 : Int32))).set iq3 (Value.int (1 : Int32))) := A30
                                  have N30 := Fr.snoc X30 N26 g_qa
                                  have Z30 : n0 ≤ h30.size := Nat.le_trans Z26 (Nat.le_of_eq W30.size.symm)
                                  show Run p e below s _ _ _ (T30.setTop (mkF m 64 #[.val (.ref this), .val (.ref seg), .val (.int (452 : Int32)), .val (.int y3), .val (.int (y3 &&& (15 : Int32)))] []))
                                  refine Run.x_goto (q := 2) X30 hx (hb hby d7_64) (by decide) (by decide) ?_
                                  refine Run.x_iloadN (q := 3) X30 hx (hb hby d7_2) rfl rfl ?_
                                  refine Run.x_aloadN (q := 4) X30 hx (hb hby d7_3) rfl rfl rfl ?_
                                  replace A_seg := A_seg.other W30 ne_seg_qa
                                  refine Run.alen X30 hx hZ e30 A_seg (z := ll) hln (hb hby d7_4) ?_
                                  show Run p e below s _ _ _ (T30.setTop (mkF m 5 #[.val (.ref this), .val (.ref seg), .val (.int (452 : Int32)), .val (.int y3), .val (.int (y3 &&& (15 : Int32)))] [(.int ll), (.int (452 : Int32))]))
                                  have hend : ¬ (452 : Int32) < ll := by rw [lt32]; have k : (452 : Int32).toInt = 452 := rfl; omega
                                  refine Run.x_icmpYes (q := 67) X30 hx (hb hby d7_5) (flt hend).2.1 (by decide) (by decide) ?_
                                  refine Run.x_iconst (q := 68) X30 hx (hb hby d7_67) (z := (1 : Int32)) rfl rfl ?_
                                  replace E_this := (((E_this.wr W2).wr W18).wr W26).wr W30
                                  replace F_this_quantisation := F_this_quantisation.other W30 (Or.inl ne_this_qa)
                                  refine Run.retN X30 hx hlk e30 (t := .boolean) hret (by simp) (z' := (1 : Int32)) (by decide) (hb hby d7_68) (by decide) (by decide) ?_
                                  have kk : (0 : Int32).toInt = 0 ∧ (65 : Int32).toInt = 65 ∧ (194 : Int32).toInt = 194 ∧ (323 : Int32).toInt = 323 ∧ (452 : Int32).toInt = 452 ∧ (4 : Int32).toInt = 4 := by decide
                                  have hle3 : (452 : Int) ≤ ll.toInt := by have q := hc51'''; rw [lt32] at q; omega
                                  have hle2 : (323 : Int) ≤ ll.toInt := by have q := hc51''; rw [lt32] at q; omega
                                  have hle1 : (194 : Int) ≤ ll.toInt := by have q := hc51'; rw [lt32] at q; omega
                                  have hle0 : (65 : Int) ≤ ll.toInt := by have q := hc51; rw [lt32] at q; omega
                                  exact PureK_mk ((own_b1 (own_rd_step ((own_n4 y0).mp hc45) (by rw [hs0]; rfl : (0 : Int) + 1 + own_sz y0 = 65) hle0 (own_rd_step ((own_n4 y1).mp hc45') (by rw [hs1]; rfl : (65 : Int) + 1 + own_sz y1 = 194) hle1 (own_rd_step ((own_n4 y2).mp hc45'') (by rw [hs2]; rfl : (194 : Int) + 1 + own_sz y2 = 323) hle2 (own_rd_step ((own_n4 y3).mp hc45''') (by rw [hs3]; rfl : (323 : Int) + 1 + own_sz y3 = 452) hle3 own_rd0))))).symm) N30
                              · skip
                                refine Run.x_icmpYes (q := 54) X26 hx (hb hby d7_45) (flt hc45''').2.1 (by decide) (by decide) ?_
                                refine Run.x_iconst (q := 55) X26 hx (hb hby d7_54) (z := (0 : Int32)) rfl rfl ?_
                                replace E_this := ((E_this.wr W2).wr W18).wr W26
                                replace F_this_quantisation := F_this_quantisation.other W26 (Or.inl ne_this_qa)
                                refine Run.retN X26 hx hlk e26 (t := .boolean) hret (by simp) (z' := (0 : Int32)) (by decide) (hb hby d7_55) (by decide) (by decide) ?_
                                have kk : (0 : Int32).toInt = 0 ∧ (65 : Int32).toInt = 65 ∧ (194 : Int32).toInt = 194 ∧ (323 : Int32).toInt = 323 ∧ (452 : Int32).toInt = 452 ∧ (4 : Int32).toInt = 4 := by decide
                                have hne3 : ¬ (323 : Int) = ll.toInt := by have q := hc5'''; rw [lt32] at q; omega
                                have hne2 : ¬ (194 : Int) = ll.toInt := by have q := hc5''; rw [lt32] at q; omega
                                have hne1 : ¬ (65 : Int) = ll.toInt := by have q := hc5'; rw [lt32] at q; omega
                                have hne0 : ¬ (0 : Int) = ll.toInt := by have q := hc5; rw [lt32] at q; omega
                                exact PureK_mk ((own_b0 (own_rd_bk hne0 (by rw [hs0]; rfl : (0 : Int) + 1 + own_sz y0 = 65) (own_rd_bk hne1 (by rw [hs1]; rfl : (65 : Int) + 1 + own_sz y1 = 194) (own_rd_bk hne2 (by rw [hs2]; rfl : (194 : Int) + 1 + own_sz y2 = 323) (own_rd_no1 hne3 (mt (own_n4 y3).mpr hc45''')))))).symm) N26
                          · skip
                            refine Run.x_icmpYes (q := 67) X26 hx (hb hby d7_5) (flt hc5''').2.1 (by decide) (by decide) ?_
                            refine Run.x_iconst (q := 68) X26 hx (hb hby d7_67) (z := (1 : Int32)) rfl rfl ?_
                            replace E_this := ((E_this.wr W2).wr W18).wr W26
                            replace F_this_quantisation := F_this_quantisation.other W26 (Or.inl ne_this_qa)
                            refine Run.retN X26 hx hlk e26 (t := .boolean) hret (by simp) (z' := (1 : Int32)) (by decide) (hb hby d7_68) (by decide) (by decide) ?_
                            have kk : (0 : Int32).toInt = 0 ∧ (65 : Int32).toInt = 65 ∧ (194 : Int32).toInt = 194 ∧ (323 : Int32).toInt = 323 ∧ (4 : Int32).toInt = 4 := by decide
                            have heq : (323 : Int) = ll.toInt := by have q := hc5'''; rw [lt32] at q; have q2 := hc51''; rw [lt32] at q2; omega
                            have hle2 : (323 : Int) ≤ ll.toInt := by have q := hc51''; rw [lt32] at q; omega
                            have hle1 : (194 : Int) ≤ ll.toInt := by have q := hc51'; rw [lt32] at q; omega
                            have hle0 : (65 : Int) ≤ ll.toInt := by have q := hc51; rw [lt32] at q; omega
                            exact PureK_mk ((own_b1 (own_rd_step ((own_n4 y0).mp hc45) (by rw [hs0]; rfl : (0 : Int) + 1 + own_sz y0 = 65) hle0 (own_rd_step ((own_n4 y1).mp hc45') (by rw [hs1]; rfl : (65 : Int) + 1 + own_sz y1 = 194) hle1 (own_rd_step ((own_n4 y2).mp hc45'') (by rw [hs2]; rfl : (194 : Int) + 1 + own_sz y2 = 323) hle2 (own_rd_eq heq))))).symm) N26
                      · skip
                        refine Run.x_icmpYes (q := 54) X18 hx (hb hby d7_45) (flt hc45'').2.1 (by decide) (by decide) ?_
                        refine Run.x_iconst (q := 55) X18 hx (hb hby d7_54) (z := (0 : Int32)) rfl rfl ?_
                        replace E_this := (E_this.wr W2).wr W18
                        replace F_this_quantisation := F_this_quantisation.other W18 (Or.inl ne_this_qa)
                        refine Run.retN X18 hx hlk e18 (t := .boolean) hret (by simp) (z' := (0 : Int32)) (by decide) (hb hby d7_55) (by decide) (by decide) ?_
                        have kk : (0 : Int32).toInt = 0 ∧ (65 : Int32).toInt = 65 ∧ (194 : Int32).toInt = 194 ∧ (323 : Int32).toInt = 323 ∧ (4 : Int32).toInt = 4 := by decide
                        have hne2 : ¬ (194 : Int) = ll.toInt := by have q := hc5''; rw [lt32] at q; omega
                        have hne1 : ¬ (65 : Int) = ll.toInt := by have q := hc5'; rw [lt32] at q; omega
                        have hne0 : ¬ (0 : Int) = ll.toInt := by have q := hc5; rw [lt32] at q; omega
                        exact PureK_mk ((own_b0 (own_rd_bk hne0 (by rw [hs0]; rfl : (0 : Int) + 1 + own_sz y0 = 65) (own_rd_bk hne1 (by rw [hs1]; rfl : (65 : Int) + 1 + own_sz y1 = 194) (own_rd_no1 hne2 (mt (own_n4 y2).mpr hc45''))))).symm) N18
                  · skip
                    refine Run.x_icmpYes (q := 67) X18 hx (hb hby d7_5) (flt hc5'').2.1 (by decide) (by decide) ?_
                    refine Run.x_iconst (q := 68) X18 hx (hb hby d7_67) (z := (1 : Int32)) rfl rfl ?_
                    replace E_this := (E_this.wr W2).wr W18
                    replace F_this_quantisation := F_this_quantisation.other W18 (Or.inl ne_this_qa)
                    refine Run.retN X18 hx hlk e18 (t := .boolean) hret (by simp) (z' := (1 : Int32)) (by decide) (hb hby d7_68) (by decide) (by decide) ?_
                    have kk : (0 : Int32).toInt = 0 ∧ (65 : Int32).toInt = 65 ∧ (194 : Int32).toInt = 194 ∧ (4 : Int32).toInt = 4 := by decide
                    have heq : (194 : Int) = ll.toInt := by have q := hc5''; rw [lt32] at q; have q2 := hc51'; rw [lt32] at q2; omega
                    have hle1 : (194 : Int) ≤ ll.toInt := by have q := hc51'; rw [lt32] at q; omega
                    have hle0 : (65 : Int) ≤ ll.toInt := by have q := hc51; rw [lt32] at q; omega
                    exact PureK_mk ((own_b1 (own_rd_step ((own_n4 y0).mp hc45) (by rw [hs0]; rfl : (0 : Int) + 1 + own_sz y0 = 65) hle0 (own_rd_step ((own_n4 y1).mp hc45') (by rw [hs1]; rfl : (65 : Int) + 1 + own_sz y1 = 194) hle1 (own_rd_eq heq)))).symm) N18
              · skip
                refine Run.x_icmpYes (q := 54) X2 hx (hb hby d7_45) (flt hc45').2.1 (by decide) (by decide) ?_
                refine Run.x_iconst (q := 55) X2 hx (hb hby d7_54) (z := (0 : Int32)) rfl rfl ?_
                replace E_this := E_this.wr W2
                replace F_this_quantisation := F_this_quantisation.other W2 (Or.inl ne_this_qa)
                refine Run.retN X2 hx hlk e2 (t := .boolean) hret (by simp) (z' := (0 : Int32)) (by decide) (hb hby d7_55) (by decide) (by decide) ?_
                have kk : (0 : Int32).toInt = 0 ∧ (65 : Int32).toInt = 65 ∧ (194 : Int32).toInt = 194 ∧ (4 : Int32).toInt = 4 := by decide
                have hne1 : ¬ (65 : Int) = ll.toInt := by have q := hc5'; rw [lt32] at q; omega
                have hne0 : ¬ (0 : Int) = ll.toInt := by have q := hc5; rw [lt32] at q; omega
                exact PureK_mk ((own_b0 (own_rd_bk hne0 (by rw [hs0]; rfl : (0 : Int) + 1 + own_sz y0 = 65) (own_rd_no1 hne1 (mt (own_n4 y1).mpr hc45')))).symm) N2
          · skip
            refine Run.x_icmpYes (q := 67) X2 hx (hb hby d7_5) (flt hc5').2.1 (by decide) (by decide) ?_
            refine Run.x_iconst (q := 68) X2 hx (hb hby d7_67) (z := (1 : Int32)) rfl rfl ?_
            replace E_this := E_this.wr W2
            replace F_this_quantisation := F_this_quantisation.other W2 (Or.inl ne_this_qa)
            refine Run.retN X2 hx hlk e2 (t := .boolean) hret (by simp) (z' := (1 : Int32)) (by decide) (hb hby d7_68) (by decide) (by decide) ?_
            have kk : (0 : Int32).toInt = 0 ∧ (65 : Int32).toInt = 65 ∧ (4 : Int32).toInt = 4 := by decide
            have heq : (65 : Int) = ll.toInt := by have q := hc5'; rw [lt32] at q; have q2 := hc51; rw [lt32] at q2; omega
            have hle0 : (65 : Int) ≤ ll.toInt := by have q := hc51; rw [lt32] at q; omega
            exact PureK_mk ((own_b1 (own_rd_step ((own_n4 y0).mp hc45) (by rw [hs0]; rfl : (0 : Int) + 1 + own_sz y0 = 65) hle0 (own_rd_eq heq))).symm) N2
      · skip
        refine Run.x_icmpYes (q := 54) X0 hx (hb hby d7_45) (flt hc45).2.1 (by decide) (by decide) ?_
        refine Run.x_iconst (q := 55) X0 hx (hb hby d7_54) (z := (0 : Int32)) rfl rfl ?_
        refine Run.retN X0 hx hlk e0 (t := .boolean) hret (by simp) (z' := (0 : Int32)) (by decide) (hb hby d7_55) (by decide) (by decide) ?_
        have kk : (0 : Int32).toInt = 0 ∧ (65 : Int32).toInt = 65 ∧ (4 : Int32).toInt = 4 := by decide
        have hne0 : ¬ (0 : Int) = ll.toInt := by have q := hc5; rw [lt32] at q; omega
        exact PureK_mk ((own_b0 (own_rd_no1 hne0 (mt (own_n4 y0).mpr hc45))).symm) N0
    · have hs0 := own_s16' hk0
      refine Run.x_ifYes (q := 37) X0 hx (hb hby d7_29) ((if0 _ _).trans (feq (mt (own_sh4 hy0.1 hy0.2).mp hk0)).2) (by decide) (by decide) ?_
      refine Run.x_sipush (q := 40) X0 hx (hb hby d7_37) (z := (128 : Int32)) rfl rfl ?_
      refine Run.x_iadd (q := 41) X0 hx (hb hby d7_40) (z := (129 : Int32)) (by decide) rfl ?_
      refine Run.x_istoreN (q := 42) X0 hx #[.val (.ref this), .val (.ref seg), .val (.int (129 : Int32)), .val (.int y0), .val (.int (y0 &&& (15 : Int32)))] (hb hby d7_41) rfl rfl ?_
      refine Run.x_iload (q := 44) X0 hx (hb hby d7_42) rfl rfl ?_
      refine Run.x_iconst (q := 45) X0 hx (hb hby d7_44) (z := (4 : Int32)) rfl rfl ?_
      by_cases hc45 : (y0 &&& (15 : Int32)) < (4 : Int32)
      · skip
        refine Run.x_icmpNo (q := 48) X0 hx (hb hby d7_45) (tlt hc45).2.1 rfl ?_
        refine Run.x_iloadN (q := 49) X0 hx (hb hby d7_48) rfl rfl ?_
        refine Run.x_aloadN (q := 50) X0 hx (hb hby d7_49) rfl rfl rfl ?_
        refine Run.alen X0 hx hZ e0 A_seg (z := ll) hln (hb hby d7_50) ?_
        show Run p e below s _ _ _ (T0.setTop (mkF m 51 #[.val (.ref this), .val (.ref seg), .val (.int (129 : Int32)), .val (.int y0), .val (.int (y0 &&& (15 : Int32)))] [(.int ll), (.int (129 : Int32))]))
        by_cases hc51 : ll < (129 : Int32)
        · skip
          refine Run.x_icmpNo (q := 54) X0 hx (hb hby d7_51) (tlt hc51).2.2.2 rfl ?_
          refine Run.x_iconst (q := 55) X0 hx (hb hby d7_54) (z := (0 : Int32)) rfl rfl ?_
          refine Run.retN X0 hx hlk e0 (t := .boolean) hret (by simp) (z' := (0 : Int32)) (by decide) (hb hby d7_55) (by decide) (by decide) ?_
          have kk : (0 : Int32).toInt = 0 ∧ (129 : Int32).toInt = 129 ∧ (4 : Int32).toInt = 4 := by decide
          have hgt : ¬ (129 : Int) ≤ ll.toInt := by have q := hc51; rw [lt32] at q; omega
          have hne0 : ¬ (0 : Int) = ll.toInt := by have q := hc5; rw [lt32] at q; omega
          exact PureK_mk ((own_b0 (own_rd_no2 hne0 (by rw [hs0]; rfl : (0 : Int) + 1 + own_sz y0 = 129) hgt)).symm) N0
        · skip
          refine Run.x_icmpYes (q := 56) X0 hx (hb hby d7_51) (flt hc51).2.2.2 (by decide) (by decide) ?_
          refine Run.x_aloadN (q := 57) X0 hx (hb hby d7_56) rfl rfl rfl ?_
          obtain ⟨T31, X31, e31, st31⟩ := getF X0 hx hZ hown (host := "") (Or.inl (hw _ (List.mem_of_getElem? (i := 22) rfl))) Via.refl e0 F_this_quantisation (g := (mkF m 57 #[.val (.ref this), .val (.ref seg), .val (.int (129 : Int32)), .val (.int y0), .val (.int (y0 &&& (15 : Int32)))] [(.ref this)])) rfl rfl (hb hby d7_57)
          refine Run.st st31 ?_
          show Run p e below s _ _ _ (T31.setTop (mkF m 60 #[.val (.ref this), .val (.ref seg), .val (.int (129 : Int32)), .val (.int y0), .val (.int (y0 &&& (15 : Int32)))] [(.ref qa)]))
          refine Run.x_iload (q := 62) X31 hx (hb hby d7_60) rfl rfl ?_
          refine Run.x_iconst (q := 63) X31 hx (hb hby d7_62) (z := (1 : Int32)) rfl rfl ?_
          have hj63 := own_n15 y0
          obtain ⟨iq0, hiq0⟩ : ∃ i : Nat, (y0 &&& (15 : Int32)).toInt = i := ⟨(y0 &&& (15 : Int32)).toInt.toNat, by omega⟩
          have hib0 : iq0 < ([(.int (0 : Int32)), (.int (0 : Int32)), (.int (0 : Int32)), (.int (0 : Int32))] : List Value).length := by
            have q4 := hc45; rw [lt32] at q4; have k4 : (4 : Int32).toInt = 4 := rfl; have hh := hiq0; simp only [List.length_set, List.length_cons, List.length_nil]; omega
          refine Run.stZ X31 hx hZ e31 A_qa (i := iq0) hiq0 hib0 (z' := (1 : Int32)) (by decide) (hb hby d7_63) ?_
          intro T32 h32 X32 e32 W32 A32
          replace A_qa : Ars Z h32 qa .boolean ([(.int (0 : Int32)), (.int (0 : Int32)), (.int (0 : Int32)), (.int (0 : Int32))].set iq0 (Value.int (1 : Int32))) := A32
          have N32 := Fr.snoc X32 N0 g_qa
          have Z32 : n0 ≤ h32.size := Nat.le_trans Z0 (Nat.le_of_eq W32.size.symm)
          show Run p e below s _ _ _ (T32.setTop (mkF m 64 #[.val (.ref this), .val (.ref seg), .val (.int (129 : Int32)), .val (.int y0), .val (.int (y0 &&& (15 : Int32)))] []))
          refine Run.x_goto (q := 2) X32 hx (hb hby d7_64) (by decide) (by decide) ?_
          refine Run.x_iloadN (q := 3) X32 hx (hb hby d7_2) rfl rfl ?_
          refine Run.x_aloadN (q := 4) X32 hx (hb hby d7_3) rfl rfl rfl ?_
          replace A_seg := A_seg.other W32 ne_seg_qa
          refine Run.alen X32 hx hZ e32 A_seg (z := ll) hln (hb hby d7_4) ?_
          show Run p e below s _ _ _ (T32.setTop (mkF m 5 #[.val (.ref this), .val (.ref seg), .val (.int (129 : Int32)), .val (.int y0), .val (.int (y0 &&& (15 : Int32)))] [(.int ll), (.int (129 : Int32))]))
          by_cases hc5' : (129 : Int32) < ll
          · skip
            refine Run.x_icmpNo (q := 8) X32 hx (hb hby d7_5) (tlt hc5').2.1 rfl ?_
            refine Run.x_aloadN (q := 9) X32 hx (hb hby d7_8) rfl rfl rfl ?_
            refine Run.x_iloadN (q := 10) X32 hx (hb hby d7_9) rfl rfl ?_
            refine Run.x_iinc (q := 13) X32 hx #[.val (.ref this), .val (.ref seg), .val (.int (130 : Int32)), .val (.int y0), .val (.int (y0 &&& (15 : Int32)))] (hb hby d7_10) rfl (z := (130 : Int32)) (by decide) rfl rfl ?_
            have hlt1 : 129 < vs.length := by have q := hc5'; rw [lt32] at q; have k : (129 : Int32).toInt = 129 := rfl; omega
            have hel1 := hq1 129 (by rw [hs0]; rfl) hlt1
            refine Run.ldB X32 hx hZ e32 A_seg (i := 129) (v := (.int y1.toInt8.toInt32)) (by decide) hel1 (hb hby d7_13) ?_
            show Run p e below s _ _ _ (T32.setTop (mkF m 14 #[.val (.ref this), .val (.ref seg), .val (.int (130 : Int32)), .val (.int y0), .val (.int (y0 &&& (15 : Int32)))] [(.int y1.toInt8.toInt32)]))
            refine Run.x_sipush (q := 17) X32 hx (hb hby d7_14) (z := (255 : Int32)) rfl rfl ?_
            refine Run.x_iand (q := 18) X32 hx (hb hby d7_17) rfl rfl ?_
            rw [own_back hy1.1 hy1.2]
            show Run p e below s _ _ _ (T32.setTop (mkF m 18 #[.val (.ref this), .val (.ref seg), .val (.int (130 : Int32)), .val (.int y0), .val (.int (y0 &&& (15 : Int32)))] [(.int y1)]))
            refine Run.x_istoreN (q := 19) X32 hx #[.val (.ref this), .val (.ref seg), .val (.int (130 : Int32)), .val (.int y1), .val (.int (y0 &&& (15 : Int32)))] (hb hby d7_18) rfl rfl ?_
            refine Run.x_iloadN (q := 20) X32 hx (hb hby d7_19) rfl rfl ?_
            refine Run.x_bipush (q := 22) X32 hx (hb hby d7_20) (z := (15 : Int32)) rfl rfl ?_
            refine Run.x_iand (q := 23) X32 hx (hb hby d7_22) rfl rfl ?_
            refine Run.x_istore (q := 25) X32 hx #[.val (.ref this), .val (.ref seg), .val (.int (130 : Int32)), .val (.int y1), .val (.int (y1 &&& (15 : Int32)))] (hb hby d7_23) rfl rfl ?_
            refine Run.x_iloadN (q := 26) X32 hx (hb hby d7_25) rfl rfl ?_
            refine Run.x_iloadN (q := 27) X32 hx (hb hby d7_26) rfl rfl ?_
            refine Run.x_iconst (q := 28) X32 hx (hb hby d7_27) (z := (4 : Int32)) rfl rfl ?_
            refine Run.x_ishr (q := 29) X32 hx (hb hby d7_28) rfl rfl ?_
            by_cases hk1 : y1 < 16
            · have hs1 := own_s16 hk1
              refine Run.x_ifNo (q := 32) X32 hx (hb hby d7_29) ((if0 _ _).trans (teq ((own_sh4 hy1.1 hy1.2).mpr hk1)).2) rfl ?_
              refine Run.x_bipush (q := 34) X32 hx (hb hby d7_32) (z := (64 : Int32)) rfl rfl ?_
              refine Run.x_goto (q := 40) X32 hx (hb hby d7_34) (by decide) (by decide) ?_
              refine Run.x_iadd (q := 41) X32 hx (hb hby d7_40) (z := (194 : Int32)) (by decide) rfl ?_
              refine Run.x_istoreN (q := 42) X32 hx #[.val (.ref this), .val (.ref seg), .val (.int (194 : Int32)), .val (.int y1), .val (.int (y1 &&& (15 : Int32)))] (hb hby d7_41) rfl rfl ?_
              refine Run.x_iload (q := 44) X32 hx (hb hby d7_42) rfl rfl ?_
              refine Run.x_iconst (q := 45) X32 hx (hb hby d7_44) (z := (4 : Int32)) rfl rfl ?_
              by_cases hc45' : (y1 &&& (15 : Int32)) < (4 : Int32)
              · skip
                refine Run.x_icmpNo (q := 48) X32 hx (hb hby d7_45) (tlt hc45').2.1 rfl ?_
                refine Run.x_iloadN (q := 49) X32 hx (hb hby d7_48) rfl rfl ?_
                refine Run.x_aloadN (q := 50) X32 hx (hb hby d7_49) rfl rfl rfl ?_
                refine Run.alen X32 hx hZ e32 A_seg (z := ll) hln (hb hby d7_50) ?_
                show Run p e below s _ _ _ (T32.setTop (mkF m 51 #[.val (.ref this), .val (.ref seg), .val (.int (194 : Int32)), .val (.int y1), .val (.int (y1 &&& (15 : Int32)))] [(.int ll), (.int (194 : Int32))]))
                by_cases hc51' : ll < (194 : Int32)
                · skip
                  refine Run.x_icmpNo (q := 54) X32 hx (hb hby d7_51) (tlt hc51').2.2.2 rfl ?_
                  refine Run.x_iconst (q := 55) X32 hx (hb hby d7_54) (z := (0 : Int32)) rfl rfl ?_
                  replace E_this := E_this.wr W32
                  replace F_this_quantisation := F_this_quantisation.other W32 (Or.inl ne_this_qa)
                  refine Run.retN X32 hx hlk e32 (t := .boolean) hret (by simp) (z' := (0 : Int32)) (by decide) (hb hby d7_55) (by decide) (by decide) ?_
                  have kk : (0 : Int32).toInt = 0 ∧ (129 : Int32).toInt = 129 ∧ (194 : Int32).toInt = 194 ∧ (4 : Int32).toInt = 4 := by decide
                  have hgt : ¬ (194 : Int) ≤ ll.toInt := by have q := hc51'; rw [lt32] at q; omega
                  have hne1 : ¬ (129 : Int) = ll.toInt := by have q := hc5'; rw [lt32] at q; omega
                  have hne0 : ¬ (0 : Int) = ll.toInt := by have q := hc5; rw [lt32] at q; omega
                  exact PureK_mk ((own_b0 (own_rd_bk hne0 (by rw [hs0]; rfl : (0 : Int) + 1 + own_sz y0 = 129) (own_rd_no2 hne1 (by rw [hs1]; rfl : (129 : Int) + 1 + own_sz y1 = 194) hgt))).symm) N32
                · skip
                  refine Run.x_icmpYes (q := 56) X32 hx (hb hby d7_51) (flt hc51').2.2.2 (by decide) (by decide) ?_
                  refine Run.x_aloadN (q := 57) X32 hx (hb hby d7_56) rfl rfl rfl ?_
                  replace F_this_quantisation := F_this_quantisation.other W32 (Or.inl ne_this_qa)
                  obtain ⟨T33, X33, e33, st33⟩ := getF X32 hx hZ hown (host := "") (Or.inl (hw _ (List.mem_of_getElem? (i := 22) rfl))) Via.refl e32 F_this_quantisation (g := (mkF m 57 #[.val (.ref this), .val (.ref seg), .val (.int (194 : Int32)), .val (.int y1), .val (.int (y1 &&& (15 : Int32)))] [(.ref this)])) rfl rfl (hb hby d7_57)
                  refine Run.st st33 ?_
                  show Run p e below s _ _ _ (T33.setTop (mkF m 60 #[.val (.ref this), .val (.ref seg), .val (.int (194 : Int32)), .val (.int y1), .val (.int (y1 &&& (15 : Int32)))] [(.ref qa)]))
                  refine Run.x_iload (q := 62) X33 hx (hb hby d7_60) rfl rfl ?_
                  refine Run.x_iconst (q := 63) X33 hx (hb hby d7_62) (z := (1 : Int32)) rfl rfl ?_
                  have hj63 := own_n15 y1
                  obtain ⟨iq1, hiq1⟩ : ∃ i : Nat, (y1 &&& (15 : Int32)).toInt = i := ⟨(y1 &&& (15 : Int32)).toInt.toNat, by omega⟩
                  have hib1 : iq1 < (([(.int (0 : Int32)), (.int (0 : Int32)), (.int (0 : Int32)), (.int (0 : Int32))].set iq0 (Value.int (1 : Int32))) : List Value).length := by
                    have q4 := hc45'; rw [lt32] at q4; have k4 : (4 : Int32).toInt = 4 := rfl; have hh := hiq1; simp only [List.length_set, List.length_cons, List.length_nil]; omega
                  refine Run.stZ X33 hx hZ e33 A_qa (i := iq1) hiq1 hib1 (z' := (1 : Int32)) (by decide) (hb hby d7_63) ?_
                  intro T34 h34 X34 e34 W34 A34
                  replace A_qa : Ars Z h34 qa .boolean (([(.int (0 : Int32)), (.int (0 : Int32)), (.int (0 : Int32)), (.int (0 : Int32))].set iq0 (Value.int (1 : Int32))).set iq1 (Value.int (1 : Int32))) := A34
                  have N34 := Fr.snoc X34 N32 g_qa
                  have Z34 : n0 ≤ h34.size := Nat.le_trans Z32 (Nat.le_of_eq W34.size.symm)
                  show Run p e below s _ _ _ (T34.setTop (mkF m 64 #[.val (.ref this), .val (.ref seg), .val (.int (194 : Int32)), .val (.int y1), .val (.int (y1 &&& (15 : Int32)))] []))
                  refine Run.x_goto (q := 2) X34 hx (hb hby d7_64) (by decide) (by decide) ?_
                  refine Run.x_iloadN (q := 3) X34 hx (hb hby d7_2) rfl rfl ?_
                  refine Run.x_aloadN (q := 4) X34 hx (hb hby d7_3) rfl rfl rfl ?_
                  replace A_seg := A_seg.other W34 ne_seg_qa
                  refine Run.alen X34 hx hZ e34 A_seg (z := ll) hln (hb hby d7_4) ?_
                  show Run p e below s _ _ _ (T34.setTop (mkF m 5 #[.val (.ref this), .val (.ref seg), .val (.int (194 : Int32)), .val (.int y1), .val (.int (y1 &&& (15 : Int32)))] [(.int ll), (.int (194 : Int32))]))
                  by_cases hc5'' : (194 : Int32) < ll
                  · skip
                    refine Run.x_icmpNo (q := 8) X34 hx (hb hby d7_5) (tlt hc5'').2.1 rfl ?_
                    refine Run.x_aloadN (q := 9) X34 hx (hb hby d7_8) rfl rfl rfl ?_
                    refine Run.x_iloadN (q := 10) X34 hx (hb hby d7_9) rfl rfl ?_
                    refine Run.x_iinc (q := 13) X34 hx #[.val (.ref this), .val (.ref seg), .val (.int (195 : Int32)), .val (.int y1), .val (.int (y1 &&& (15 : Int32)))] (hb hby d7_10) rfl (z := (195 : Int32)) (by decide) rfl rfl ?_
                    have hlt2 : 194 < vs.length := by have q := hc5''; rw [lt32] at q; have k : (194 : Int32).toInt = 194 := rfl; omega
                    have hel2 := hq2 194 (by rw [hs0, hs1]; rfl) hlt2
                    refine Run.ldB X34 hx hZ e34 A_seg (i := 194) (v := (.int y2.toInt8.toInt32)) (by decide) hel2 (hb hby d7_13) ?_
                    show Run p e below s _ _ _ (T34.setTop (mkF m 14 #[.val (.ref this), .val (.ref seg), .val (.int (195 : Int32)), .val (.int y1), .val (.int (y1 &&& (15 : Int32)))] [(.int y2.toInt8.toInt32)]))
                    refine Run.x_sipush (q := 17) X34 hx (hb hby d7_14) (z := (255 : Int32)) rfl rfl ?_
                    refine Run.x_iand (q := 18) X34 hx (hb hby d7_17) rfl rfl ?_
                    rw [own_back hy2.1 hy2.2]
                    show Run p e below s _ _ _ (T34.setTop (mkF m 18 #[.val (.ref this), .val (.ref seg), .val (.int (195 : Int32)), .val (.int y1), .val (.int (y1 &&& (15 : Int32)))] [(.int y2)]))
                    refine Run.x_istoreN (q := 19) X34 hx #[.val (.ref this), .val (.ref seg), .val (.int (195 : Int32)), .val (.int y2), .val (.int (y1 &&& (15 : Int32)))] (hb hby d7_18) rfl rfl ?_
                    refine Run.x_iloadN (q := 20) X34 hx (hb hby d7_19) rfl rfl ?_
                    refine Run.x_bipush (q := 22) X34 hx (hb hby d7_20) (z := (15 : Int32)) rfl rfl ?_
                    refine Run.x_iand (q := 23) X34 hx (hb hby d7_22) rfl rfl ?_
                    refine Run.x_istore (q := 25) X34 hx #[.val (.ref this), .val (.ref seg), .val (.int (195 : Int32)), .val (.int y2), .val (.int (y2 &&& (15 : Int32)))] (hb hby d7_23) rfl rfl ?_
                    refine Run.x_iloadN (q := 26) X34 hx (hb hby d7_25) rfl rfl ?_
                    refine Run.x_iloadN (q := 27) X34 hx (hb hby d7_26) rfl rfl ?_
                    refine Run.x_iconst (q := 28) X34 hx (hb hby d7_27) (z := (4 : Int32)) rfl rfl ?_
                    refine Run.x_ishr (q := 29) X34 hx (hb hby d7_28) rfl rfl ?_
                    by_cases hk2 : y2 < 16
                    · have hs2 := own_s16 hk2
                      refine Run.x_ifNo (q := 32) X34 hx (hb hby d7_29) ((if0 _ _).trans (teq ((own_sh4 hy2.1 hy2.2).mpr hk2)).2) rfl ?_
                      refine Run.x_bipush (q := 34) X34 hx (hb hby d7_32) (z := (64 : Int32)) rfl rfl ?_
                      refine Run.x_goto (q := 40) X34 hx (hb hby d7_34) (by decide) (by decide) ?_
                      refine Run.x_iadd (q := 41) X34 hx (hb hby d7_40) (z := (259 : Int32)) (by decide) rfl ?_
                      refine Run.x_istoreN (q := 42) X34 hx #[.val (.ref this), .val (.ref seg), .val (.int (259 : Int32)), .val (.int y2), .val (.int (y2 &&& (15 : Int32)))] (hb hby d7_41) rfl rfl ?_
                      refine Run.x_iload (q := 44) X34 hx (hb hby d7_42) rfl rfl ?_
                      refine Run.x_iconst (q := 45) X34 hx (hb hby d7_44) (z := (4 : Int32)) rfl rfl ?_
                      by_cases hc45'' : (y2 &&& (15 : Int32)) < (4 : Int32)
                      · skip
                        refine Run.x_icmpNo (q := 48) X34 hx (hb hby d7_45) (tlt hc45'').2.1 rfl ?_
                        refine Run.x_iloadN (q := 49) X34 hx (hb hby d7_48) rfl rfl ?_
                        refine Run.x_aloadN (q := 50) X34 hx (hb hby d7_49) rfl rfl rfl ?_
                        refine Run.alen X34 hx hZ e34 A_seg (z := ll) hln (hb hby d7_50) ?_
                        show Run p e below s _ _ _ (T34.setTop (mkF m 51 #[.val (.ref this), .val (.ref seg), .val (.int (259 : Int32)), .val (.int y2), .val (.int (y2 &&& (15 : Int32)))] [(.int ll), (.int (259 : Int32))]))
                        by_cases hc51'' : ll < (259 : Int32)
                        · skip
                          refine Run.x_icmpNo (q := 54) X34 hx (hb hby d7_51) (tlt hc51'').2.2.2 rfl ?_
                          refine Run.x_iconst (q := 55) X34 hx (hb hby d7_54) (z := (0 : Int32)) rfl rfl ?_
                          replace E_this := (E_this.wr W32).wr W34
                          replace F_this_quantisation := F_this_quantisation.other W34 (Or.inl ne_this_qa)
                          refine Run.retN X34 hx hlk e34 (t := .boolean) hret (by simp) (z' := (0 : Int32)) (by decide) (hb hby d7_55) (by decide) (by decide) ?_
                          have kk : (0 : Int32).toInt = 0 ∧ (129 : Int32).toInt = 129 ∧ (194 : Int32).toInt = 194 ∧ (259 : Int32).toInt = 259 ∧ (4 : Int32).toInt = 4 := by decide
                          have hgt : ¬ (259 : Int) ≤ ll.toInt := by have q := hc51''; rw [lt32] at q; omega
                          have hne2 : ¬ (194 : Int) = ll.toInt := by have q := hc5''; rw [lt32] at q; omega
                          have hne1 : ¬ (129 : Int) = ll.toInt := by have q := hc5'; rw [lt32] at q; omega
                          have hne0 : ¬ (0 : Int) = ll.toInt := by have q := hc5; rw [lt32] at q; omega
                          exact PureK_mk ((own_b0 (own_rd_bk hne0 (by rw [hs0]; rfl : (0 : Int) + 1 + own_sz y0 = 129) (own_rd_bk hne1 (by rw [hs1]; rfl : (129 : Int) + 1 + own_sz y1 = 194) (own_rd_no2 hne2 (by rw [hs2]; rfl : (194 : Int) + 1 + own_sz y2 = 259) hgt)))).symm) N34
                        · skip
                          refine Run.x_icmpYes (q := 56) X34 hx (hb hby d7_51) (flt hc51'').2.2.2 (by decide) (by decide) ?_
                          refine Run.x_aloadN (q := 57) X34 hx (hb hby d7_56) rfl rfl rfl ?_
                          replace F_this_quantisation := F_this_quantisation.other W34 (Or.inl ne_this_qa)
                          obtain ⟨T35, X35, e35, st35⟩ := getF X34 hx hZ hown (host := "") (Or.inl (hw _ (List.mem_of_getElem? (i := 22) rfl))) Via.refl e34 F_this_quantisation (g := (mkF m 57 #[.val (.ref this), .val (.ref seg), .val (.int (259 : Int32)), .val (.int y2), .val (.int (y2 &&& (15 : Int32)))] [(.ref this)])) rfl rfl (hb hby d7_57)
                          refine Run.st st35 ?_
                          show Run p e below s _ _ _ (T35.setTop (mkF m 60 #[.val (.ref this), .val (.ref seg), .val (.int (259 : Int32)), .val (.int y2), .val (.int (y2 &&& (15 : Int32)))] [(.ref qa)]))
                          refine Run.x_iload (q := 62) X35 hx (hb hby d7_60) rfl rfl ?_
                          refine Run.x_iconst (q := 63) X35 hx (hb hby d7_62) (z := (1 : Int32)) rfl rfl ?_
                          have hj63 := own_n15 y2
                          obtain ⟨iq2, hiq2⟩ : ∃ i : Nat, (y2 &&& (15 : Int32)).toInt = i := ⟨(y2 &&& (15 : Int32)).toInt.toNat, by omega⟩
                          have hib2 : iq2 < ((([(.int (0 : Int32)), (.int (0 : Int32)), (.int (0 : Int32)), (.int (0 : Int32))].set iq0 (Value.int (1 : Int32))).set iq1 (Value.int (1 : Int32))) : List Value).length := by
                            have q4 := hc45''; rw [lt32] at q4; have k4 : (4 : Int32).toInt = 4 := rfl; have hh := hiq2; simp only [List.length_set, List.length_cons, List.length_nil]; omega
                          refine Run.stZ X35 hx hZ e35 A_qa (i := iq2) hiq2 hib2 (z' := (1 : Int32)) (by decide) (hb hby d7_63) ?_
                          intro T36 h36 X36 e36 W36 A36
                          replace A_qa : Ars Z h36 qa .boolean ((([(.int (0 : Int32)), (.int (0 : Int32)), (.int (0 : Int32)), (.int (0 : Int32))].set iq0 (Value.int (1 : Int32))).set iq1 (Value.int (1 : Int32))).set iq2 (Value.int (1 : Int32))) := A36
                          have N36 := Fr.snoc X36 N34 g_qa
                          have Z36 : n0 ≤ h36.size := Nat.le_trans Z34 (Nat.le_of_eq W36.size.symm)
                          show Run p e below s _ _ _ (T36.setTop (mkF m 64 #[.val (.ref this), .val (.ref seg), .val (.int (259 : Int32)), .val (.int y2), .val (.int (y2 &&& (15 : Int32)))] []))
                          refine Run.x_goto (q := 2) X36 hx (hb hby d7_64) (by decide) (by decide) ?_
                          refine Run.x_iloadN (q := 3) X36 hx (hb hby d7_2) rfl rfl ?_
                          refine Run.x_aloadN (q := 4) X36 hx (hb hby d7_3) rfl rfl rfl ?_
                          replace A_seg := A_seg.other W36 ne_seg_qa
                          refine Run.alen X36 hx hZ e36 A_seg (z := ll) hln (hb hby d7_4) ?_
                          show Run p e below s _ _ _ (T36.setTop (mkF m 5 #[.val (.ref this), .val (.ref seg), .val (.int (259 : Int32)), .val (.int y2), .val (.int (y2 &&& (15 : Int32)))] [(.int ll), (.int (259 : Int32))]))
                          by_cases hc5''' : (259 : Int32) < ll
                          · skip
                            refine Run.x_icmpNo (q := 8) X36 hx (hb hby d7_5) (tlt hc5''').2.1 rfl ?_
                            refine Run.x_aloadN (q := 9) X36 hx (hb hby d7_8) rfl rfl rfl ?_
                            refine Run.x_iloadN (q := 10) X36 hx (hb hby d7_9) rfl rfl ?_
                            refine Run.x_iinc (q := 13) X36 hx #[.val (.ref this), .val (.ref seg), .val (.int (260 : Int32)), .val (.int y2), .val (.int (y2 &&& (15 : Int32)))] (hb hby d7_10) rfl (z := (260 : Int32)) (by decide) rfl rfl ?_
                            have hlt3 : 259 < vs.length := by have q := hc5'''; rw [lt32] at q; have k : (259 : Int32).toInt = 259 := rfl; omega
                            have hel3 := hq3 259 (by rw [hs0, hs1, hs2]; rfl) hlt3
                            refine Run.ldB X36 hx hZ e36 A_seg (i := 259) (v := (.int y3.toInt8.toInt32)) (by decide) hel3 (hb hby d7_13) ?_
                            show Run p e below s _ _ _ (T36.setTop (mkF m 14 #[.val (.ref this), .val (.ref seg), .val (.int (260 : Int32)), .val (.int y2), .val (.int (y2 &&& (15 : Int32)))] [(.int y3.toInt8.toInt32)]))
                            refine Run.x_sipush (q := 17) X36 hx (hb hby d7_14) (z := (255 : Int32)) rfl rfl ?_
                            refine Run.x_iand (q := 18) X36 hx (hb hby d7_17) rfl rfl ?_
                            rw [own_back hy3.1 hy3.2]
                            show Run p e below s _ _ _ (T36.setTop (mkF m 18 #[.val (.ref this), .val (.ref seg), .val (.int (260 : Int32)), .val (.int y2), .val (.int (y2 &&& (15 : Int32)))] [(.int y3)]))
                            refine Run.x_istoreN (q := 19) X36 hx #[.val (.ref this), .val (.ref seg), .val (.int (260 : Int32)), .val (.int y3), .val (.int (y2 &&& (15 : Int32)))] (hb hby d7_18) rfl rfl ?_
                            refine Run.x_iloadN (q := 20) X36 hx (hb hby d7_19) rfl rfl ?_
                            refine Run.x_bipush (q := 22) X36 hx (hb hby d7_20) (z := (15 : Int32)) rfl rfl ?_
                            refine Run.x_iand (q := 23) X36 hx (hb hby d7_22) rfl rfl ?_
                            refine Run.x_istore (q := 25) X36 hx #[.val (.ref this), .val (.ref seg), .val (.int (260 : Int32)), .val (.int y3), .val (.int (y3 &&& (15 : Int32)))] (hb hby d7_23) rfl rfl ?_
                            refine Run.x_iloadN (q := 26) X36 hx (hb hby d7_25) rfl rfl ?_
                            refine Run.x_iloadN (q := 27) X36 hx (hb hby d7_26) rfl rfl ?_
                            refine Run.x_iconst (q := 28) X36 hx (hb hby d7_27) (z := (4 : Int32)) rfl rfl ?_
                            refine Run.x_ishr (q := 29) X36 hx (hb hby d7_28) rfl rfl ?_
                            by_cases hk3 : y3 < 16
                            · have hs3 := own_s16 hk3
                              refine Run.x_ifNo (q := 32) X36 hx (hb hby d7_29) ((if0 _ _).trans (teq ((own_sh4 hy3.1 hy3.2).mpr hk3)).2) rfl ?_
                              refine Run.x_bipush (q := 34) X36 hx (hb hby d7_32) (z := (64 : Int32)) rfl rfl ?_
                              refine Run.x_goto (q := 40) X36 hx (hb hby d7_34) (by decide) (by decide) ?_
                              refine Run.x_iadd (q := 41) X36 hx (hb hby d7_40) (z := (324 : Int32)) (by decide) rfl ?_
                              refine Run.x_istoreN (q := 42) X36 hx #[.val (.ref this), .val (.ref seg), .val (.int (324 : Int32)), .val (.int y3), .val (.int (y3 &&& (15 : Int32)))] (hb hby d7_41) rfl rfl ?_
                              refine Run.x_iload (q := 44) X36 hx (hb hby d7_42) rfl rfl ?_
                              refine Run.x_iconst (q := 45) X36 hx (hb hby d7_44) (z := (4 : Int32)) rfl rfl ?_
                              by_cases hc45''' : (y3 &&& (15 : Int32)) < (4 : Int32)
                              · skip
                                refine Run.x_icmpNo (q := 48) X36 hx (hb hby d7_45) (tlt hc45''').2.1 rfl ?_
                                refine Run.x_iloadN (q := 49) X36 hx (hb hby d7_48) rfl rfl ?_
                                refine Run.x_aloadN (q := 50) X36 hx (hb hby d7_49) rfl rfl rfl ?_
                                refine Run.alen X36 hx hZ e36 A_seg (z := ll) hln (hb hby d7_50) ?_
                                show Run p e below s _ _ _ (T36.setTop (mkF m 51 #[.val (.ref this), .val (.ref seg), .val (.int (324 : Int32)), .val (.int y3), .val (.int (y3 &&& (15 : Int32)))] [(.int ll), (.int (324 : Int32))]))
                                by_cases hc51''' : ll < (324 : Int32)
                                · skip
                                  refine Run.x_icmpNo (q := 54) X36 hx (hb hby d7_51) (tlt hc51''').2.2.2 rfl ?_
                                  refine Run.x_iconst (q := 55) X36 hx (hb hby d7_54) (z := (0 : Int32)) rfl rfl ?_
                                  replace E_this := ((E_this.wr W32).wr W34).wr W36
                                  replace F_this_quantisation := F_this_quantisation.other W36 (Or.inl ne_this_qa)
                                  refine Run.retN X36 hx hlk e36 (t := .boolean) hret (by simp) (z' := (0 : Int32)) (by decide) (hb hby d7_55) (by decide) (by decide) ?_
                                  have kk : (0 : Int32).toInt = 0 ∧ (129 : Int32).toInt = 129 ∧ (194 : Int32).toInt = 194 ∧ (259 : Int32).toInt = 259 ∧ (324 : Int32).toInt = 324 ∧ (4 : Int32).toInt = 4 := by decide
                                  have hgt : ¬ (324 : Int) ≤ ll.toInt := by have q := hc51'''; rw [lt32] at q; omega
                                  have hne3 : ¬ (259 : Int) = ll.toInt := by have q := hc5'''; rw [lt32] at q; omega
                                  have hne2 : ¬ (194 : Int) = ll.toInt := by have q := hc5''; rw [lt32] at q; omega
                                  have hne1 : ¬ (129 : Int) = ll.toInt := by have q := hc5'; rw [lt32] at q; omega
                                  have hne0 : ¬ (0 : Int) = ll.toInt := by have q := hc5; rw [lt32] at q; omega
                                  exact PureK_mk ((own_b0 (own_rd_bk hne0 (by rw [hs0]; rfl : (0 : Int) + 1 + own_sz y0 = 129) (own_rd_bk hne1 (by rw [hs1]; rfl : (129 : Int) + 1 + own_sz y1 = 194) (own_rd_bk hne2 (by rw [hs2]; rfl : (194 : Int) + 1 + own_sz y2 = 259) (own_rd_no2 hne3 (by rw [hs3]; rfl : (259 : Int) + 1 + own_sz y3 = 324) hgt))))).symm) N36
                                · skip
                                  refine Run.x_icmpYes (q := 56) X36 hx (hb hby d7_51) (flt hc51''').2.2.2 (by decide) (by decide) ?_
                                  refine Run.x_aloadN (q := 57) X36 hx (hb hby d7_56) rfl rfl rfl ?_
                                  replace F_this_quantisation := F_this_quantisation.other W36 (Or.inl ne_this_qa)
                                  obtain ⟨T37, X37, e37, st37⟩ := getF X36 hx hZ hown (host := "") (Or.inl (hw _ (List.mem_of_getElem? (i := 22) rfl))) Via.refl e36 F_this_quantisation (g := (mkF m 57 #[.val (.ref this), .val (.ref seg), .val (.int (324 : Int32)), .val (.int y3), .val (.int (y3 &&& (15 : Int32)))] [(.ref this)])) rfl rfl (hb hby d7_57)
                                  refine Run.st st37 ?_
                                  show Run p e below s _ _ _ (T37.setTop (mkF m 60 #[.val (.ref this), .val (.ref seg), .val (.int (324 : Int32)), .val (.int y3), .val (.int (y3 &&& (15 : Int32)))] [(.ref qa)]))
                                  refine Run.x_iload (q := 62) X37 hx (hb hby d7_60) rfl rfl ?_
                                  refine Run.x_iconst (q := 63) X37 hx (hb hby d7_62) (z := (1 : Int32)) rfl rfl ?_
                                  have hj63 := own_n15 y3
                                  obtain ⟨iq3, hiq3⟩ : ∃ i : Nat, (y3 &&& (15 : Int32)).toInt = i := ⟨(y3 &&& (15 : Int32)).toInt.toNat, by omega⟩
                                  have hib3 : iq3 < (((([(.int (0 : Int32)), (.int (0 : Int32)), (.int (0 : Int32)), (.int (0 : Int32))].set iq0 (Value.int (1 : Int32))).set iq1 (Value.int (1 : Int32))).set iq2 (Value.int (1 : Int32))) : List Value).length := by
                                    have q4 := hc45'''; rw [lt32] at q4; have k4 : (4 : Int32).toInt = 4 := rfl; have hh := hiq3; simp only [List.length_set, List.length_cons, List.length_nil]; omega
                                  refine Run.stZ X37 hx hZ e37 A_qa (i := iq3) hiq3 hib3 (z' := (1 : Int32)) (by decide) (hb hby d7_63) ?_
                                  intro T38 h38 X38 e38 W38 A38
                                  replace A_qa : Ars Z h38 qa .boolean (((([(.int (0 : Int32)), (.int (0 : Int32)), (.int (0 : Int32)), (.int (0 : Int32))].set iq0 (Value.int (1 : Int32))).set iq1 (Value.int (1 : Int32))).set iq2 (Value.int (1 : Int32))).set iq3 (Value.int (1 : Int32))) := A38
                                  have N38 := Fr.snoc X38 N36 g_qa
                                  have Z38 : n0 ≤ h38.size := Nat.le_trans Z36 (Nat.le_of_eq W38.size.symm)
                                  show Run p e below s _ _ _ (T38.setTop (mkF m 64 #[.val (.ref this), .val (.ref seg), .val (.int (324 : Int32)), .val (.int y3), .val (.int (y3 &&& (15 : Int32)))] []))
                                  refine Run.x_goto (q := 2) X38 hx (hb hby d7_64) (by decide) (by decide) ?_
                                  refine Run.x_iloadN (q := 3) X38 hx (hb hby d7_2) rfl rfl ?_
                                  refine Run.x_aloadN (q := 4) X38 hx (hb hby d7_3) rfl rfl rfl ?_
                                  replace A_seg := A_seg.other W38 ne_seg_qa
                                  refine Run.alen X38 hx hZ e38 A_seg (z := ll) hln (hb hby d7_4) ?_
                                  show Run p e below s _ _ _ (T38.setTop (mkF m 5 #[.val (.ref this), .val (.ref seg), .val (.int (324 : Int32)), .val (.int y3), .val (.int (y3 &&& (15 : Int32)))] [(.int ll), (.int (324 : Int32))]))
                                  have hend : ¬ (324 : Int32) < ll := by rw [lt32]; have k : (324 : Int32).toInt = 324 := rfl; omega
                                  refine Run.x_icmpYes (q := 67) X38 hx (hb hby d7_5) (flt hend).2.1 (by decide) (by decide) ?_
                                  refine Run.x_iconst (q := 68) X38 hx (hb hby d7_67) (z := (1 : Int32)) rfl rfl ?_
                                  replace E_this := (((E_this.wr W32).wr W34).wr W36).wr W38
                                  replace F_this_quantisation := F_this_quantisation.other W38 (Or.inl ne_this_qa)
                                  refine Run.retN X38 hx hlk e38 (t := .boolean) hret (by simp) (z' := (1 : Int32)) (by decide) (hb hby d7_68) (by decide) (by decide) ?_
                                  have kk : (0 : Int32).toInt = 0 ∧ (129 : Int32).toInt = 129 ∧ (194 : Int32).toInt = 194 ∧ (259 : Int32).toInt = 259 ∧ (324 : Int32).toInt = 324 ∧ (4 : Int32).toInt = 4 := by decide
                                  have hle3 : (324 : Int) ≤ ll.toInt := by have q := hc51'''; rw [lt32] at q; omega
                                  have hle2 : (259 : Int) ≤ ll.toInt := by have q := hc51''; rw [lt32] at q; omega
                                  have hle1 : (194 : Int) ≤ ll.toInt := by have q := hc51'; rw [lt32] at q; omega
                                  have hle0 : (129 : Int) ≤ ll.toInt := by have q := hc51; rw [lt32] at q; omega
                                  exact PureK_mk ((own_b1 (own_rd_step ((own_n4 y0).mp hc45) (by rw [hs0]; rfl : (0 : Int) + 1 + own_sz y0 = 129) hle0 (own_rd_step ((own_n4 y1).mp hc45') (by rw [hs1]; rfl : (129 : Int) + 1 + own_sz y1 = 194) hle1 (own_rd_step ((own_n4 y2).mp hc45'') (by rw [hs2]; rfl : (194 : Int) + 1 + own_sz y2 = 259) hle2 (own_rd_step ((own_n4 y3).mp hc45''') (by rw [hs3]; rfl : (259 : Int) + 1 + own_sz y3 = 324) hle3 own_rd0))))).symm) N38
                              · skip
                                refine Run.x_icmpYes (q := 54) X36 hx (hb hby d7_45) (flt hc45''').2.1 (by decide) (by decide) ?_
                                refine Run.x_iconst (q := 55) X36 hx (hb hby d7_54) (z := (0 : Int32)) rfl rfl ?_
                                replace E_this := ((E_this.wr W32).wr W34).wr W36
                                replace F_this_quantisation := F_this_quantisation.other W36 (Or.inl ne_this_qa)
                                refine Run.retN X36 hx hlk e36 (t := .boolean) hret (by simp) (z' := (0 : Int32)) (by decide) (hb hby d7_55) (by decide) (by decide) ?_
                                have kk : (0 : Int32).toInt = 0 ∧ (129 : Int32).toInt = 129 ∧ (194 : Int32).toInt = 194 ∧ (259 : Int32).toInt = 259 ∧ (324 : Int32).toInt = 324 ∧ (4 : Int32).toInt = 4 := by decide
                                have hne3 : ¬ (259 : Int) = ll.toInt := by have q := hc5'''; rw [lt32] at q; omega
                                have hne2 : ¬ (194 : Int) = ll.toInt := by have q := hc5''; rw [lt32] at q; omega
                                have hne1 : ¬ (129 : Int) = ll.toInt := by have q := hc5'; rw [lt32] at q; omega
                                have hne0 : ¬ (0 : Int) = ll.toInt := by have q := hc5; rw [lt32] at q; omega
                                exact PureK_mk ((own_b0 (own_rd_bk hne0 (by rw [hs0]; rfl : (0 : Int) + 1 + own_sz y0 = 129) (own_rd_bk hne1 (by rw [hs1]; rfl : (129 : Int) + 1 + own_sz y1 = 194) (own_rd_bk hne2 (by rw [hs2]; rfl : (194 : Int) + 1 + own_sz y2 = 259) (own_rd_no1 hne3 (mt (own_n4 y3).mpr hc45''')))))).symm) N36
                            · have hs3 := own_s16' hk3
                              refine Run.x_ifYes (q := 37) X36 hx (hb hby d7_29) ((if0 _ _).trans (feq (mt (own_sh4 hy3.1 hy3.2).mp hk3)).2) (by decide) (by decide) ?_
                              refine Run.x_sipush (q := 40) X36 hx (hb hby d7_37) (z := (128 : Int32)) rfl rfl ?_
                              refine Run.x_iadd (q := 41) X36 hx (hb hby d7_40) (z := (388 : Int32)) (by decide) rfl ?_
                              refine Run.x_istoreN (q := 42) X36 hx #[.val (.ref this), .val (.ref seg), .val (.int (388 : Int32)), .val (.int y3), .val (.int (y3 &&& (15 : Int32)))] (hb hby d7_41) rfl rfl ?_
                              refine Run.x_iload (q := 44) X36 hx (hb hby d7_42) rfl rfl ?_
                              refine Run.x_iconst (q := 45) X36 hx (hb hby d7_44) (z := (4 : Int32)) rfl rfl ?_
                              by_cases hc45''' : (y3 &&& (15 : Int32)) < (4 : Int32)
                              · skip
                                refine Run.x_icmpNo (q := 48) X36 hx (hb hby d7_45) (tlt hc45''').2.1 rfl ?_
                                refine Run.x_iloadN (q := 49) X36 hx (hb hby d7_48) rfl rfl ?_
                                refine Run.x_aloadN (q := 50) X36 hx (hb hby d7_49) rfl rfl rfl ?_
                                refine Run.alen X36 hx hZ e36 A_seg (z := ll) hln (hb hby d7_50) ?_
                                show Run p e below s _ _ _ (T36.setTop (mkF m 51 #[.val (.ref this), .val (.ref seg), .val (.int (388 : Int32)), .val (.int y3), .val (.int (y3 &&& (15 : Int32)))] [(.int ll), (.int (388 : Int32))]))
                                by_cases hc51''' : ll < (388 : Int32)
                                · skip
                                  refine Run.x_icmpNo (q := 54) X36 hx (hb hby d7_51) (tlt hc51''').2.2.2 rfl ?_
                                  refine Run.x_iconst (q := 55) X36 hx (hb hby d7_54) (z := (0 : Int32)) rfl rfl ?_
                                  replace E_this := ((E_this.wr W32).wr W34).wr W36
                                  replace F_this_quantisation := F_this_quantisation.other W36 (Or.inl ne_this_qa)
                                  refine Run.retN X36 hx hlk e36 (t := .boolean) hret (by simp) (z' := (0 : Int32)) (by decide) (hb hby d7_55) (by decide) (by decide) ?_
                                  have kk : (0 : Int32).toInt = 0 ∧ (129 : Int32).toInt = 129 ∧ (194 : Int32).toInt = 194 ∧ (259 : Int32).toInt = 259 ∧ (388 : Int32).toInt = 388 ∧ (4 : Int32).toInt = 4 := by decide
                                  have hgt : ¬ (388 : Int) ≤ ll.toInt := by have q := hc51'''; rw [lt32] at q; omega
                                  have hne3 : ¬ (259 : Int) = ll.toInt := by have q := hc5'''; rw [lt32] at q; omega
                                  have hne2 : ¬ (194 : Int) = ll.toInt := by have q := hc5''; rw [lt32] at q; omega
                                  have hne1 : ¬ (129 : Int) = ll.toInt := by have q := hc5'; rw [lt32] at q; omega
                                  have hne0 : ¬ (0 : Int) = ll.toInt := by have q := hc5; rw [lt32] at q; omega
                                  exact PureK_mk ((own_b0 (own_rd_bk hne0 (by rw [hs0]; rfl : (0 : Int) + 1 + own_sz y0 = 129) (own_rd_bk hne1 (by rw [hs1]; rfl : (129 : Int) + 1 + own_sz y1 = 194) (own_rd_bk hne2 (by rw [hs2]; rfl : (194 : Int) + 1 + own_sz y2 = 259) (own_rd_no2 hne3 (by rw [hs3]; rfl : (259 : Int) + 1 + own_sz y3 = 388) hgt))))).symm) N36
                                · skip
                                  refine Run.x_icmpYes (q := 56) X36 hx (hb hby d7_51) (flt hc51''').2.2.2 (by decide) (by decide) ?_
                                  refine Run.x_aloadN (q := 57) X36 hx (hb hby d7_56) rfl rfl rfl ?_
                                  replace F_this_quantisation := F_this_quantisation.other W36 (Or.inl ne_this_qa)
                                  obtain ⟨T39, X39, e39, st39⟩ := getF X36 hx hZ hown (host := "") (Or.inl (hw _ (List.mem_of_getElem? (i := 22) rfl))) Via.refl e36 F_this_quantisation (g := (mkF m 57 #[.val (.ref this), .val (.ref seg), .val (.int (388 : Int32)), .val (.int y3), .val (.int (y3 &&& (15 : Int32)))] [(.ref this)])) rfl rfl (hb hby d7_57)
                                  refine Run.st st39 ?_
                                  show Run p e below s _ _ _ (T39.setTop (mkF m 60 #[.val (.ref this), .val (.ref seg), .val (.int (388 : Int32)), .val (.int y3), .val (.int (y3 &&& (15 : Int32)))] [(.ref qa)]))
                                  refine Run.x_iload (q := 62) X39 hx (hb hby d7_60) rfl rfl ?_
                                  refine Run.x_iconst (q := 63) X39 hx (hb hby d7_62) (z := (1 : Int32)) rfl rfl ?_
                                  have hj63 := own_n15 y3
                                  obtain ⟨iq3, hiq3⟩ : ∃ i : Nat, (y3 &&& (15 : Int32)).toInt = i := ⟨(y3 &&& (15 : Int32)).toInt.toNat, by omega⟩
                                  have hib3 : iq3 < (((([(.int (0 : Int32)), (.int (0 : Int32)), (.int (0 : Int32)), (.int (0 : Int32))].set iq0 (Value.int (1 : Int32))).set iq1 (Value.int (1 : Int32))).set iq2 (Value.int (1 : Int32))) : List Value).length := by
                                    have q4 := hc45'''; rw [lt32] at q4; have k4 : (4 : Int32).toInt = 4 := rfl; have hh := hiq3; simp only [List.length_set, List.length_cons, List.length_nil]; omega
                                  refine Run.stZ X39 hx hZ e39 A_qa (i := iq3) hiq3 hib3 (z' := (1 : Int32)) (by decide) (hb hby d7_63) ?_
                                  intro T40 h40 X40 e40 W40 A40
                                  replace A_qa : Ars Z h40 qa .boolean (((([(.int (0 : Int32)), (.int (0 : Int32)), (.int (0 : Int32)), (.int (0 : Int32))].set iq0 (Value.int (1 : Int32))).set iq1 (Value.int (1 : Int32))).set iq2 (Value.int (1 : Int32))).set iq3 (Value.int (1 : Int32))) := A40
                                  have N40 := Fr.snoc X40 N36 g_qa
                                  have Z40 : n0 ≤ h40.size := Nat.le_trans Z36 (Nat.le_of_eq W40.size.symm)
                                  show Run p e below s _ _ _ (T40.setTop (mkF m 64 #[.val (.ref this), .val (.ref seg), .val (.int (388 : Int32)), .val (.int y3), .val (.int (y3 &&& (15 : Int32)))] []))
                                  refine Run.x_goto (q := 2) X40 hx (hb hby d7_64) (by decide) (by decide) ?_
                                  refine Run.x_iloadN (q := 3) X40 hx (hb hby d7_2) rfl rfl ?_
                                  refine Run.x_aloadN (q := 4) X40 hx (hb hby d7_3) rfl rfl rfl ?_
                                  replace A_seg := A_seg.other W40 ne_seg_qa
                                  refine Run.alen X40 hx hZ e40 A_seg (z := ll) hln (hb hby d7_4) ?_
                                  show Run p e below s _ _ _ (T40.setTop (mkF m 5 #[.val (.ref this), .val (.ref seg), .val (.int (388 : Int32)), .val (.int y3), .val (.int (y3 &&& (15 : Int32)))] [(.int ll), (.int (388 : Int32))]))
                                  have hend : ¬ (388 : Int32) < ll := by rw [lt32]; have k : (388 : Int32).toInt = 388 := rfl; omega
                                  refine Run.x_icmpYes (q := 67) X40 hx (hb hby d7_5) (flt hend).2.1 (by decide) (by decide) ?_
                                  refine Run.x_iconst (q := 68) X40 hx (hb hby d7_67) (z := (1 : Int32)) rfl rfl ?_
                                  replace E_this := (((E_this.wr W32).wr W34).wr W36).wr W40
                                  replace F_this_quantisation := F_this_quantisation.other W40 (Or.inl ne_this_qa)
                                  refine Run.retN X40 hx hlk e40 (t := .boolean) hret (by simp) (z' := (1 : Int32)) (by decide) (hb hby d7_68) (by decide) (by decide) ?_
                                  have kk : (0 : Int32).toInt = 0 ∧ (129 : Int32).toInt = 129 ∧ (194 : Int32).toInt = 194 ∧ (259 : Int32).toInt = 259 ∧ (388 : Int32).toInt = 388 ∧ (4 : Int32).toInt = 4 := by decide
                                  have hle3 : (388 : Int) ≤ ll.toInt := by have q := hc51'''; rw [lt32] at q; omega
                                  have hle2 : (259 : Int) ≤ ll.toInt := by have q := hc51''; rw [lt32] at q; omega
                                  have hle1 : (194 : Int) ≤ ll.toInt := by have q := hc51'; rw [lt32] at q; omega
                                  have hle0 : (129 : Int) ≤ ll.toInt := by have q := hc51; rw [lt32] at q; omega
                                  exact PureK_mk ((own_b1 (own_rd_step ((own_n4 y0).mp hc45) (by rw [hs0]; rfl : (0 : Int) + 1 + own_sz y0 = 129) hle0 (own_rd_step ((own_n4 y1).mp hc45') (by rw [hs1]; rfl : (129 : Int) + 1 + own_sz y1 = 194) hle1 (own_rd_step ((own_n4 y2).mp hc45'') (by rw [hs2]; rfl : (194 : Int) + 1 + own_sz y2 = 259) hle2 (own_rd_step ((own_n4 y3).mp hc45''') (by rw [hs3]; rfl : (259 : Int) + 1 + own_sz y3 = 388) hle3 own_rd0))))).symm) N40
                              · skip
                                refine Run.x_icmpYes (q := 54) X36 hx (hb hby d7_45) (flt hc45''').2.1 (by decide) (by decide) ?_
                                refine Run.x_iconst (q := 55) X36 hx (hb hby d7_54) (z := (0 : Int32)) rfl rfl ?_
                                replace E_this := ((E_this.wr W32).wr W34).wr W36
                                replace F_this_quantisation := F_this_quantisation.other W36 (Or.inl ne_this_qa)
                                refine Run.retN X36 hx hlk e36 (t := .boolean) hret (by simp) (z' := (0 : Int32)) (by decide) (hb hby d7_55) (by decide) (by decide) ?_
                                have kk : (0 : Int32).toInt = 0 ∧ (129 : Int32).toInt = 129 ∧ (194 : Int32).toInt = 194 ∧ (259 : Int32).toInt = 259 ∧ (388 : Int32).toInt = 388 ∧ (4 : Int32).toInt = 4 := by decide
                                have hne3 : ¬ (259 : Int) = ll.toInt := by have q := hc5'''; rw [lt32] at q; omega
                                have hne2 : ¬ (194 : Int) = ll.toInt := by have q := hc5''; rw [lt32] at q; omega
                                have hne1 : ¬ (129 : Int) = ll.toInt := by have q := hc5'; rw [lt32] at q; omega
                                have hne0 : ¬ (0 : Int) = ll.toInt := by have q := hc5; rw [lt32] at q; omega
                                exact PureK_mk ((own_b0 (own_rd_bk hne0 (by rw [hs0]; rfl : (0 : Int) + 1 + own_sz y0 = 129) (own_rd_bk hne1 (by rw [hs1]; rfl : (129 : Int) + 1 + own_sz y1 = 194) (own_rd_bk hne2 (by rw [hs2]; rfl : (194 : Int) + 1 + own_sz y2 = 259) (own_rd_no1 hne3 (mt (own_n4 y3).mpr hc45''')))))).symm) N36
                          · skip
                            refine Run.x_icmpYes (q := 67) X36 hx (hb hby d7_5) (flt hc5''').2.1 (by decide) (by decide) ?_
                            refine Run.x_iconst (q := 68) X36 hx (hb hby d7_67) (z := (1 : Int32)) rfl rfl ?_
                            replace E_this := ((E_this.wr W32).wr W34).wr W36
                            replace F_this_quantisation := F_this_quantisation.other W36 (Or.inl ne_this_qa)
                            refine Run.retN X36 hx hlk e36 (t := .boolean) hret (by simp) (z' := (1 : Int32)) (by decide) (hb hby d7_68) (by decide) (by decide) ?_
                            have kk : (0 : Int32).toInt = 0 ∧ (129 : Int32).toInt = 129 ∧ (194 : Int32).toInt = 194 ∧ (259 : Int32).toInt = 259 ∧ (4 : Int32).toInt = 4 := by decide
                            have heq : (259 : Int) = ll.toInt := by have q := hc5'''; rw [lt32] at q; have q2 := hc51''; rw [lt32] at q2; omega
                            have hle2 : (259 : Int) ≤ ll.toInt := by have q := hc51''; rw [lt32] at q; omega
                            have hle1 : (194 : Int) ≤ ll.toInt := by have q := hc51'; rw [lt32] at q; omega
                            have hle0 : (129 : Int) ≤ ll.toInt := by have q := hc51; rw [lt32] at q; omega
                            exact PureK_mk ((own_b1 (own_rd_step ((own_n4 y0).mp hc45) (by rw [hs0]; rfl : (0 : Int) + 1 + own_sz y0 = 129) hle0 (own_rd_step ((own_n4 y1).mp hc45') (by rw [hs1]; rfl : (129 : Int) + 1 + own_sz y1 = 194) hle1 (own_rd_step ((own_n4 y2).mp hc45'') (by rw [hs2]; rfl : (194 : Int) + 1 + own_sz y2 = 259) hle2 (own_rd_eq heq))))).symm) N36
                      · skip
                        refine Run.x_icmpYes (q := 54) X34 hx (hb hby d7_45) (flt hc45'').2.1 (by decide) (by decide) ?_
                        refine Run.x_iconst (q := 55) X34 hx (hb hby d7_54) (z := (0 : Int32)) rfl rfl ?_
                        replace E_this := (E_this.wr W32).wr W34
                        replace F_this_quantisation := F_this_quantisation.other W34 (Or.inl ne_this_qa)
                        refine Run.retN X34 hx hlk e34 (t := .boolean) hret (by simp) (z' := (0 : Int32)) (by decide) (hb hby d7_55) (by decide) (by decide) ?_
                        have kk : (0 : Int32).toInt = 0 ∧ (129 : Int32).toInt = 129 ∧ (194 : Int32).toInt = 194 ∧ (259 : Int32).toInt = 259 ∧ (4 : Int32).toInt = 4 := by decide
                        have hne2 : ¬ (194 : Int) = ll.toInt := by have q := hc5''; rw [lt32] at q; omega
                        have hne1 : ¬ (129 : Int) = ll.toInt := by have q := hc5'; rw [lt32] at q; omega
                        have hne0 : ¬ (0 : Int) = ll.toInt := by have q := hc5; rw [lt32] at q; omega
                        exact PureK_mk ((own_b0 (own_rd_bk hne0 (by rw [hs0]; rfl : (0 : Int) + 1 + own_sz y0 = 129) (own_rd_bk hne1 (by rw [hs1]; rfl : (129 : Int) + 1 + own_sz y1 = 194) (own_rd_no1 hne2 (mt (own_n4 y2).mpr hc45''))))).symm) N34
                    · have hs2 := own_s16' hk2
                      refine Run.x_ifYes (q := 37) X34 hx (hb hby d7_29) ((if0 _ _).trans (feq (mt (own_sh4 hy2.1 hy2.2).mp hk2)).2) (by decide) (by decide) ?_
                      refine Run.x_sipush (q := 40) X34 hx (hb hby d7_37) (z := (128 : Int32)) rfl rfl ?_
                      refine Run.x_iadd (q := 41) X34 hx (hb hby d7_40) (z := (323 : Int32)) (by decide) rfl ?_
                      refine Run.x_istoreN (q := 42) X34 hx #[.val (.ref this), .val (.ref seg), .val (.int (323 : Int32)), .val (.int y2), .val (.int (y2 &&& (15 : Int32)))] (hb hby d7_41) rfl rfl ?_
                      refine Run.x_iload (q := 44) X34 hx (hb hby d7_42) rfl rfl ?_
                      refine Run.x_iconst (q := 45) X34 hx (hb hby d7_44) (z := (4 : Int32)) rfl rfl ?_
                      by_cases hc45'' : (y2 &&& (15 : Int32)) < (4 : Int32)
                      · skip
                        refine Run.x_icmpNo (q := 48) X34 hx (hb hby d7_45) (tlt hc45'').2.1 rfl ?_
                        refine Run.x_iloadN (q := 49) X34 hx (hb hby d7_48) rfl rfl ?_
                        refine Run.x_aloadN (q := 50) X34 hx (hb hby d7_49) rfl rfl rfl ?_
                        refine Run.alen X34 hx hZ e34 A_seg (z := ll) hln (hb hby d7_50) ?_
                        show Run p e below s _ _ _ (T34.setTop (mkF m 51 #[.val (.ref this), .val (.ref seg), .val (.int (323 : Int32)), .val (.int y2), .val (.int (y2 &&& (15 : Int32)))] [(.int ll), (.int (323 : Int32))]))
                        by_cases hc51'' : ll < (323 : Int32)
                        · skip
                          refine Run.x_icmpNo (q := 54) X34 hx (hb hby d7_51) (tlt hc51'').2.2.2 rfl ?_
                          refine Run.x_iconst (q := 55) X34 hx (hb hby d7_54) (z := (0 : Int32)) rfl rfl ?_
                          replace E_this := (E_this.wr W32).wr W34
                          replace F_this_quantisation := F_this_quantisation.other W34 (Or.inl ne_this_qa)
                          refine Run.retN X34 hx hlk e34 (t := .boolean) hret (by simp) (z' := (0 : Int32)) (by decide) (hb hby d7_55) (by decide) (by decide) ?_
                          have kk : (0 : Int32).toInt = 0 ∧ (129 : Int32).toInt = 129 ∧ (194 : Int32).toInt = 194 ∧ (323 : Int32).toInt = 323 ∧ (4 : Int32).toInt = 4 := by decide
                          have hgt : ¬ (323 : Int) ≤ ll.toInt := by have q := hc51''; rw [lt32] at q; omega
                          have hne2 : ¬ (194 : Int) = ll.toInt := by have q := hc5''; rw [lt32] at q; omega
                          have hne1 : ¬ (129 : Int) = ll.toInt := by have q := hc5'; rw [lt32] at q; omega
                          have hne0 : ¬ (0 : Int) = ll.toInt := by have q := hc5; rw [lt32] at q; omega
                          exact PureK_mk ((own_b0 (own_rd_bk hne0 (by rw [hs0]; rfl : (0 : Int) + 1 + own_sz y0 = 129) (own_rd_bk hne1 (by rw [hs1]; rfl : (129 : Int) + 1 + own_sz y1 = 194) (own_rd_no2 hne2 (by rw [hs2]; rfl : (194 : Int) + 1 + own_sz y2 = 323) hgt)))).symm) N34
                        · skip
                          refine Run.x_icmpYes (q := 56) X34 hx (hb hby d7_51) (flt hc51'').2.2.2 (by decide) (by decide) ?_
                          refine Run.x_aloadN (q := 57) X34 hx (hb hby d7_56) rfl rfl rfl ?_
                          replace F_this_quantisation := F_this_quantisation.other W34 (Or.inl ne_this_qa)
                          obtain ⟨T41, X41, e41, st41⟩ := getF X34 hx hZ hown (host := "") (Or.inl (hw _ (List.mem_of_getElem? (i := 22) rfl))) Via.refl e34 F_this_quantisation (g := (mkF m 57 #[.val (.ref this), .val (.ref seg), .val (.int (323 : Int32)), .val (.int y2), .val (.int (y2 &&& (15 : Int32)))] [(.ref this)])) rfl rfl (hb hby d7_57)
                          refine Run.st st41 ?_
                          show Run p e below s _ _ _ (T41.setTop (mkF m 60 #[.val (.ref this), .val (.ref seg), .val (.int (323 : Int32)), .val (.int y2), .val (.int (y2 &&& (15 : Int32)))] [(.ref qa)]))
                          refine Run.x_iload (q := 62) X41 hx (hb hby d7_60) rfl rfl ?_
                          refine Run.x_iconst (q := 63) X41 hx (hb hby d7_62) (z := (1 : Int32)) rfl rfl ?_
                          have hj63 := own_n15 y2
                          obtain ⟨iq2, hiq2⟩ : ∃ i : Nat, (y2 &&& (15 : Int32)).toInt = i := ⟨(y2 &&& (15 : Int32)).toInt.toNat, by omega⟩
                          have hib2 : iq2 < ((([(.int (0 : Int32)), (.int (0 : Int32)), (.int (0 : Int32)), (.int (0 : Int32))].set iq0 (Value.int (1 : Int32))).set iq1 (Value.int (1 : Int32))) : List Value).length := by
                            have q4 := hc45''; rw [lt32] at q4; have k4 : (4 : Int32).toInt = 4 := rfl; have hh := hiq2; simp only [List.length_set, List.length_cons, List.length_nil]; omega
                          refine Run.stZ X41 hx hZ e41 A_qa (i := iq2) hiq2 hib2 (z' := (1 : Int32)) (by decide) (hb hby d7_63) ?_
                          intro T42 h42 X42 e42 W42 A42
                          replace A_qa : Ars Z h42 qa .boolean ((([(.int (0 : Int32)), (.int (0 : Int32)), (.int (0 : Int32)), (.int (0 : Int32))].set iq0 (Value.int (1 : Int32))).set iq1 (Value.int (1 : Int32))).set iq2 (Value.int (1 : Int32))) := A42
                          have N42 := Fr.snoc X42 N34 g_qa
                          have Z42 : n0 ≤ h42.size := Nat.le_trans Z34 (Nat.le_of_eq W42.size.symm)
                          show Run p e below s _ _ _ (T42.setTop (mkF m 64 #[.val (.ref this), .val (.ref seg), .val (.int (323 : Int32)), .val (.int y2), .val (.int (y2 &&& (15 : Int32)))] []))
                          refine Run.x_goto (q := 2) X42 hx (hb hby d7_64) (by decide) (by decide) ?_
                          refine Run.x_iloadN (q := 3) X42 hx (hb hby d7_2) rfl rfl ?_
                          refine Run.x_aloadN (q := 4) X42 hx (hb hby d7_3) rfl rfl rfl ?_
                          replace A_seg := A_seg.other W42 ne_seg_qa
                          refine Run.alen X42 hx hZ e42 A_seg (z := ll) hln (hb hby d7_4) ?_
                          show Run p e below s _ _ _ (T42.setTop (mkF m 5 #[.val (.ref this), .val (.ref seg), .val (.int (323 : Int32)), .val (.int y2), .val (.int (y2 &&& (15 : Int32)))] [(.int ll), (.int (323 : Int32))]))
                          by_cases hc5''' : (323 : Int32) < ll
                          · skip
                            refine Run.x_icmpNo (q := 8) X42 hx (hb hby d7_5) (tlt hc5''').2.1 rfl ?_
                            refine Run.x_aloadN (q := 9) X42 hx (hb hby d7_8) rfl rfl rfl ?_
                            refine Run.x_iloadN (q := 10) X42 hx (hb hby d7_9) rfl rfl ?_
                            refine Run.x_iinc (q := 13) X42 hx #[.val (.ref this), .val (.ref seg), .val (.int (324 : Int32)), .val (.int y2), .val (.int (y2 &&& (15 : Int32)))] (hb hby d7_10) rfl (z := (324 : Int32)) (by decide) rfl rfl ?_
                            have hlt3 : 323 < vs.length := by have q := hc5'''; rw [lt32] at q; have k : (323 : Int32).toInt = 323 := rfl; omega
                            have hel3 := hq3 323 (by rw [hs0, hs1, hs2]; rfl) hlt3
                            refine Run.ldB X42 hx hZ e42 A_seg (i := 323) (v := (.int y3.toInt8.toInt32)) (by decide) hel3 (hb hby d7_13) ?_
                            show Run p e below s _ _ _ (T42.setTop (mkF m 14 #[.val (.ref this), .val (.ref seg), .val (.int (324 : Int32)), .val (.int y2), .val (.int (y2 &&& (15 : Int32)))] [(.int y3.toInt8.toInt32)]))
                            refine Run.x_sipush (q := 17) X42 hx (hb hby d7_14) (z := (255 : Int32)) rfl rfl ?_
                            refine Run.x_iand (q := 18) X42 hx (hb hby d7_17) rfl rfl ?_
                            rw [own_back hy3.1 hy3.2]
                            show Run p e below s _ _ _ (T42.setTop (mkF m 18 #[.val (.ref this), .val (.ref seg), .val (.int (324 : Int32)), .val (.int y2), .val (.int (y2 &&& (15 : Int32)))] [(.int y3)]))
                            refine Run.x_istoreN (q := 19) X42 hx #[.val (.ref this), .val (.ref seg), .val (.int (324 : Int32)), .val (.int y3), .val (.int (y2 &&& (15 : Int32)))] (hb hby d7_18) rfl rfl ?_
                            refine Run.x_iloadN (q := 20) X42 hx (hb hby d7_19) rfl rfl ?_
                            refine Run.x_bipush (q := 22) X42 hx (hb hby d7_20) (z := (15 : Int32)) rfl rfl ?_
                            refine Run.x_iand (q := 23) X42 hx (hb hby d7_22) rfl rfl ?_
                            refine Run.x_istore (q := 25) X42 hx #[.val (.ref this), .val (.ref seg), .val (.int (324 : Int32)), .val (.int y3), .val (.int (y3 &&& (15 : Int32)))] (hb hby d7_23) rfl rfl ?_
                            refine Run.x_iloadN (q := 26) X42 hx (hb hby d7_25) rfl rfl ?_
                            refine Run.x_iloadN (q := 27) X42 hx (hb hby d7_26) rfl rfl ?_
                            refine Run.x_iconst (q := 28) X42 hx (hb hby d7_27) (z := (4 : Int32)) rfl rfl ?_
                            refine Run.x_ishr (q := 29) X42 hx (hb hby d7_28) rfl rfl ?_
                            by_cases hk3 : y3 < 16
                            · have hs3 := own_s16 hk3
                              refine Run.x_ifNo (q := 32) X42 hx (hb hby d7_29) ((if0 _ _).trans (teq ((own_sh4 hy3.1 hy3.2).mpr hk3)).2) rfl ?_
                              refine Run.x_bipush (q := 34) X42 hx (hb hby d7_32) (z := (64 : Int32)) rfl rfl ?_
                              refine Run.x_goto (q := 40) X42 hx (hb hby d7_34) (by decide) (by decide) ?_
                              refine Run.x_iadd (q := 41) X42 hx (hb hby d7_40) (z := (388 : Int32)) (by decide) rfl ?_
                              refine Run.x_istoreN (q := 42) X42 hx #[.val (.ref this), .val (.ref seg), .val (.int (388 : Int32)), .val (.int y3), .val (.int (y3 &&& (15 : Int32)))] (hb hby d7_41) rfl rfl ?_
                              refine Run.x_iload (q := 44) X42 hx (hb hby d7_42) rfl rfl ?_
                              refine Run.x_iconst (q := 45) X42 hx (hb hby d7_44) (z := (4 : Int32)) rfl rfl ?_
                              by_cases hc45''' : (y3 &&& (15 : Int32)) < (4 : Int32)
                              · skip
                                refine Run.x_icmpNo (q := 48) X42 hx (hb hby d7_45) (tlt hc45''').2.1 rfl ?_
                                refine Run.x_iloadN (q := 49) X42 hx (hb hby d7_48) rfl rfl ?_
                                refine Run.x_aloadN (q := 50) X42 hx (hb hby d7_49) rfl rfl rfl ?_
                                refine Run.alen X42 hx hZ e42 A_seg (z := ll) hln (hb hby d7_50) ?_
                                show Run p e below s _ _ _ (T42.setTop (mkF m 51 #[.val (.ref this), .val (.ref seg), .val (.int (388 : Int32)), .val (.int y3), .val (.int (y3 &&& (15 : Int32)))] [(.int ll), (.int (388 : Int32))]))
                                by_cases hc51''' : ll < (388 : Int32)
                                · skip
                                  refine Run.x_icmpNo (q := 54) X42 hx (hb hby d7_51) (tlt hc51''').2.2.2 rfl ?_
                                  refine Run.x_iconst (q := 55) X42 hx (hb hby d7_54) (z := (0 : Int32)) rfl rfl ?_
                                  replace E_this := ((E_this.wr W32).wr W34).wr W42
                                  replace F_this_quantisation := F_this_quantisation.other W42 (Or.inl ne_this_qa)
                                  refine Run.retN X42 hx hlk e42 (t := .boolean) hret (by simp) (z' := (0 : Int32)) (by decide) (hb hby d7_55) (by decide) (by decide) ?_
                                  have kk : (0 : Int32).toInt = 0 ∧ (129 : Int32).toInt = 129 ∧ (194 : Int32).toInt = 194 ∧ (323 : Int32).toInt = 323 ∧ (388 : Int32).toInt = 388 ∧ (4 : Int32).toInt = 4 := by decide
                                  have hgt : ¬ (388 : Int) ≤ ll.toInt := by have q := hc51'''; rw [lt32] at q; omega
                                  have hne3 : ¬ (323 : Int) = ll.toInt := by have q := hc5'''; rw [lt32] at q; omega
                                  have hne2 : ¬ (194 : Int) = ll.toInt := by have q := hc5''; rw [lt32] at q; omega
                                  have hne1 : ¬ (129 : Int) = ll.toInt := by have q := hc5'; rw [lt32] at q; omega
                                  have hne0 : ¬ (0 : Int) = ll.toInt := by have q := hc5; rw [lt32] at q; omega
                                  exact PureK_mk ((own_b0 (own_rd_bk hne0 (by rw [hs0]; rfl : (0 : Int) + 1 + own_sz y0 = 129) (own_rd_bk hne1 (by rw [hs1]; rfl : (129 : Int) + 1 + own_sz y1 = 194) (own_rd_bk hne2 (by rw [hs2]; rfl : (194 : Int) + 1 + own_sz y2 = 323) (own_rd_no2 hne3 (by rw [hs3]; rfl : (323 : Int) + 1 + own_sz y3 = 388) hgt))))).symm) N42
                                · skip
                                  refine Run.x_icmpYes (q := 56) X42 hx (hb hby d7_51) (flt hc51''').2.2.2 (by decide) (by decide) ?_
                                  refine Run.x_aloadN (q := 57) X42 hx (hb hby d7_56) rfl rfl rfl ?_
                                  replace F_this_quantisation := F_this_quantisation.other W42 (Or.inl ne_this_qa)
                                  obtain ⟨T43, X43, e43, st43⟩ := getF X42 hx hZ hown (host := "") (Or.inl (hw _ (List.mem_of_getElem? (i := 22) rfl))) Via.refl e42 F_this_quantisation (g := (mkF m 57 #[.val (.ref this), .val (.ref seg), .val (.int (388 : Int32)), .val (.int y3), .val (.int (y3 &&& (15 : Int32)))] [(.ref this)])) rfl rfl (hb hby d7_57)
                                  refine Run.st st43 ?_
                                  show Run p e below s _ _ _ (T43.setTop (mkF m 60 #[.val (.ref this), .val (.ref seg), .val (.int (388 : Int32)), .val (.int y3), .val (.int (y3 &&& (15 : Int32)))] [(.ref qa)]))
                                  refine Run.x_iload (q := 62) X43 hx (hb hby d7_60) rfl rfl ?_
                                  refine Run.x_iconst (q := 63) X43 hx (hb hby d7_62) (z := (1 : Int32)) rfl rfl ?_
                                  have hj63 := own_n15 y3
                                  obtain ⟨iq3, hiq3⟩ : ∃ i : Nat, (y3 &&& (15 : Int32)).toInt = i := ⟨(y3 &&& (15 : Int32)).toInt.toNat, by omega⟩
                                  have hib3 : iq3 < (((([(.int (0 : Int32)), (.int (0 : Int32)), (.int (0 : Int32)), (.int (0 : Int32))].set iq0 (Value.int (1 : Int32))).set iq1 (Value.int (1 : Int32))).set iq2 (Value.int (1 : Int32))) : List Value).length := by
                                    have q4 := hc45'''; rw [lt32] at q4; have k4 : (4 : Int32).toInt = 4 := rfl; have hh := hiq3; simp only [List.length_set, List.length_cons, List.length_nil]; omega
                                  refine Run.stZ X43 hx hZ e43 A_qa (i := iq3) hiq3 hib3 (z' := (1 : Int32)) (by decide) (hb hby d7_63) ?_
                                  intro T44 h44 X44 e44 W44 A44
                                  replace A_qa : Ars Z h44 qa .boolean (((([(.int (0 : Int32)), (.int (0 : Int32)), (.int (0 : Int32)), (.int (0 : Int32))].set iq0 (Value.int (1 : Int32))).set iq1 (Value.int (1 : Int32))).set iq2 (Value.int (1 : Int32))).set iq3 (Value.int (1 : Int32))) := A44
                                  have N44 := Fr.snoc X44 N42 g_qa
                                  have Z44 : n0 ≤ h44.size := Nat.le_trans Z42 (Nat.le_of_eq W44.size.symm)
                                  show Run p e below s _ _ _ (T44.setTop (mkF m 64 #[.val (.ref this), .val (.ref seg), .val (.int (388 : Int32)), .val (.int y3), .val (.int (y3 &&& (15 : Int32)))] []))
                                  refine Run.x_goto (q := 2) X44 hx (hb hby d7_64) (by decide) (by decide) ?_
                                  refine Run.x_iloadN (q := 3) X44 hx (hb hby d7_2) rfl rfl ?_
                                  refine Run.x_aloadN (q := 4) X44 hx (hb hby d7_3) rfl rfl rfl ?_
                                  replace A_seg := A_seg.other W44 ne_seg_qa
                                  refine Run.alen X44 hx hZ e44 A_seg (z := ll) hln (hb hby d7_4) ?_
                                  show Run p e below s _ _ _ (T44.setTop (mkF m 5 #[.val (.ref this), .val (.ref seg), .val (.int (388 : Int32)), .val (.int y3), .val (.int (y3 &&& (15 : Int32)))] [(.int ll), (.int (388 : Int32))]))
                                  have hend : ¬ (388 : Int32) < ll := by rw [lt32]; have k : (388 : Int32).toInt = 388 := rfl; omega
                                  refine Run.x_icmpYes (q := 67) X44 hx (hb hby d7_5) (flt hend).2.1 (by decide) (by decide) ?_
                                  refine Run.x_iconst (q := 68) X44 hx (hb hby d7_67) (z := (1 : Int32)) rfl rfl ?_
                                  replace E_this := (((E_this.wr W32).wr W34).wr W42).wr W44
                                  replace F_this_quantisation := F_this_quantisation.other W44 (Or.inl ne_this_qa)
                                  refine Run.retN X44 hx hlk e44 (t := .boolean) hret (by simp) (z' := (1 : Int32)) (by decide) (hb hby d7_68) (by decide) (by decide) ?_
                                  have kk : (0 : Int32).toInt = 0 ∧ (129 : Int32).toInt = 129 ∧ (194 : Int32).toInt = 194 ∧ (323 : Int32).toInt = 323 ∧ (388 : Int32).toInt = 388 ∧ (4 : Int32).toInt = 4 := by decide
                                  have hle3 : (388 : Int) ≤ ll.toInt := by have q := hc51'''; rw [lt32] at q; omega
                                  have hle2 : (323 : Int) ≤ ll.toInt := by have q := hc51''; rw [lt32] at q; omega
                                  have hle1 : (194 : Int) ≤ ll.toInt := by have q := hc51'; rw [lt32] at q; omega
                                  have hle0 : (129 : Int) ≤ ll.toInt := by have q := hc51; rw [lt32] at q; omega
                                  exact PureK_mk ((own_b1 (own_rd_step ((own_n4 y0).mp hc45) (by rw [hs0]; rfl : (0 : Int) + 1 + own_sz y0 = 129) hle0 (own_rd_step ((own_n4 y1).mp hc45') (by rw [hs1]; rfl : (129 : Int) + 1 + own_sz y1 = 194) hle1 (own_rd_step ((own_n4 y2).mp hc45'') (by rw [hs2]; rfl : (194 : Int) + 1 + own_sz y2 = 323) hle2 (own_rd_step ((own_n4 y3).mp hc45''') (by rw [hs3]; rfl : (323 : Int) + 1 + own_sz y3 = 388) hle3 own_rd0))))).symm) N44
                              · skip
                                refine Run.x_icmpYes (q := 54) X42 hx (hb hby d7_45) (flt hc45''').2.1 (by decide) (by decide) ?_
                                refine Run.x_iconst (q := 55) X42 hx (hb hby d7_54) (z := (0 : Int32)) rfl rfl ?_
                                replace E_this := ((E_this.wr W32).wr W34).wr W42
                                replace F_this_quantisation := F_this_quantisation.other W42 (Or.inl ne_this_qa)
                                refine Run.retN X42 hx hlk e42 (t := .boolean) hret (by simp) (z' := (0 : Int32)) (by decide) (hb hby d7_55) (by decide) (by decide) ?_
                                have kk : (0 : Int32).toInt = 0 ∧ (129 : Int32).toInt = 129 ∧ (194 : Int32).toInt = 194 ∧ (323 : Int32).toInt = 323 ∧ (388 : Int32).toInt = 388 ∧ (4 : Int32).toInt = 4 := by decide
                                have hne3 : ¬ (323 : Int) = ll.toInt := by have q := hc5'''; rw [lt32] at q; omega
                                have hne2 : ¬ (194 : Int) = ll.toInt := by have q := hc5''; rw [lt32] at q; omega
                                have hne1 : ¬ (129 : Int) = ll.toInt := by have q := hc5'; rw [lt32] at q; omega
                                have hne0 : ¬ (0 : Int) = ll.toInt := by have q := hc5; rw [lt32] at q; omega
                                exact PureK_mk ((own_b0 (own_rd_bk hne0 (by rw [hs0]; rfl : (0 : Int) + 1 + own_sz y0 = 129) (own_rd_bk hne1 (by rw [hs1]; rfl : (129 : Int) + 1 + own_sz y1 = 194) (own_rd_bk hne2 (by rw [hs2]; rfl : (194 : Int) + 1 + own_sz y2 = 323) (own_rd_no1 hne3 (mt (own_n4 y3).mpr hc45''')))))).symm) N42
                            · have hs3 := own_s16' hk3
                              refine Run.x_ifYes (q := 37) X42 hx (hb hby d7_29) ((if0 _ _).trans (feq (mt (own_sh4 hy3.1 hy3.2).mp hk3)).2) (by decide) (by decide) ?_
                              refine Run.x_sipush (q := 40) X42 hx (hb hby d7_37) (z := (128 : Int32)) rfl rfl ?_
                              refine Run.x_iadd (q := 41) X42 hx (hb hby d7_40) (z := (452 : Int32)) (by decide) rfl ?_
                              refine Run.x_istoreN (q := 42) X42 hx #[.val (.ref this), .val (.ref seg), .val (.int (452 : Int32)), .val (.int y3), .val (.int (y3 &&& (15 : Int32)))] (hb hby d7_41) rfl rfl ?_
                              refine Run.x_iload (q := 44) X42 hx (hb hby d7_42) rfl rfl ?_
                              refine Run.x_iconst (q := 45) X42 hx (hb hby d7_44) (z := (4 : Int32)) rfl rfl ?_
                              by_cases hc45''' : (y3 &&& (15 : Int32)) < (4 : Int32)
                              · skip
                                refine Run.x_icmpNo (q := 48) X42 hx (hb hby d7_45) (tlt hc45''').2.1 rfl ?_
                                refine Run.x_iloadN (q := 49) X42 hx (hb hby d7_48) rfl rfl ?_
                                refine Run.x_aloadN (q := 50) X42 hx (hb hby d7_49) rfl rfl rfl ?_
                                refine Run.alen X42 hx hZ e42 A_seg (z := ll) hln (hb hby d7_50) ?_
                                show Run p e below s _ _ _ (T42.setTop (mkF m 51 #[.val (.ref this), .val (.ref seg), .val (.int (452 : Int32)), .val (.int y3), .val (.int (y3 &&& (15 : Int32)))] [(.int ll), (.int (452 : Int32))]))
                                by_cases hc51''' : ll < (452 : Int32)
                                · skip
                                  refine Run.x_icmpNo (q := 54) X42 hx (hb hby d7_51) (tlt hc51''').2.2.2 rfl ?_
                                  refine Run.x_iconst (q := 55) X42 hx (hb hby d7_54) (z := (0 : Int32)) rfl rfl ?_
                                  replace E_this := ((E_this.wr W32).wr W34).wr W42
                                  replace F_this_quantisation := F_this_quantisation.other W42 (Or.inl ne_this_qa)
                                  refine Run.retN X42 hx hlk e42 (t := .boolean) hret (by simp) (z' := (0 : Int32)) (by decide) (hb hby d7_55) (by decide) (by decide) ?_
                                  have kk : (0 : Int32).toInt = 0 ∧ (129 : Int32).toInt = 129 ∧ (194 : Int32).toInt = 194 ∧ (323 : Int32).toInt = 323 ∧ (452 : Int32).toInt = 452 ∧ (4 : Int32).toInt = 4 := by decide
                                  have hgt : ¬ (452 : Int) ≤ ll.toInt := by have q := hc51'''; rw [lt32] at q; omega
                                  have hne3 : ¬ (323 : Int) = ll.toInt := by have q := hc5'''; rw [lt32] at q; omega
                                  have hne2 : ¬ (194 : Int) = ll.toInt := by have q := hc5''; rw [lt32] at q; omega
                                  have hne1 : ¬ (129 : Int) = ll.toInt := by have q := hc5'; rw [lt32] at q; omega
                                  have hne0 : ¬ (0 : Int) = ll.toInt := by have q := hc5; rw [lt32] at q; omega
                                  exact PureK_mk ((own_b0 (own_rd_bk hne0 (by rw [hs0]; rfl : (0 : Int) + 1 + own_sz y0 = 129) (own_rd_bk hne1 (by rw [hs1]; rfl : (129 : Int) + 1 + own_sz y1 = 194) (own_rd_bk hne2 (by rw [hs2]; rfl : (194 : Int) + 1 + own_sz y2 = 323) (own_rd_no2 hne3 (by rw [hs3]; rfl : (323 : Int) + 1 + own_sz y3 = 452) hgt))))).symm) N42
                                · skip
                                  refine Run.x_icmpYes (q := 56) X42 hx (hb hby d7_51) (flt hc51''').2.2.2 (by decide) (by decide) ?_
                                  refine Run.x_aloadN (q := 57) X42 hx (hb hby d7_56) rfl rfl rfl ?_
                                  replace F_this_quantisation := F_this_quantisation.other W42 (Or.inl ne_this_qa)
                                  obtain ⟨T45, X45, e45, st45⟩ := getF X42 hx hZ hown (host := "") (Or.inl (hw _ (List.mem_of_getElem? (i := 22) rfl))) Via.refl e42 F_this_quantisation (g := (mkF m 57 #[.val (.ref this), .val (.ref seg), .val (.int (452 : Int32)), .val (.int y3), .val (.int (y3 &&& (15 : Int32)))] [(.ref this)])) rfl rfl (hb hby d7_57)
                                  refine Run.st st45 ?_
                                  show Run p e below s _ _ _ (T45.setTop (mkF m 60 #[.val (.ref this), .val (.ref seg), .val (.int (452 : Int32)), .val (.int y3), .val (.int (y3 &&& (15 : Int32)))] [(.ref qa)]))
                                  refine Run.x_iload (q := 62) X45 hx (hb hby d7_60) rfl rfl ?_
                                  refine Run.x_iconst (q := 63) X45 hx (hb hby d7_62) (z := (1 : Int32)) rfl rfl ?_
                                  have hj63 := own_n15 y3
                                  obtain ⟨iq3, hiq3⟩ : ∃ i : Nat, (y3 &&& (15 : Int32)).toInt = i := ⟨(y3 &&& (15 : Int32)).toInt.toNat, by omega⟩
                                  have hib3 : iq3 < (((([(.int (0 : Int32)), (.int (0 : Int32)), (.int (0 : Int32)), (.int (0 : Int32))].set iq0 (Value.int (1 : Int32))).set iq1 (Value.int (1 : Int32))).set iq2 (Value.int (1 : Int32))) : List Value).length := by
                                    have q4 := hc45'''; rw [lt32] at q4; have k4 : (4 : Int32).toInt = 4 := rfl; have hh := hiq3; simp only [List.length_set, List.length_cons, List.length_nil]; omega
                                  refine Run.stZ X45 hx hZ e45 A_qa (i := iq3) hiq3 hib3 (z' := (1 : Int32)) (by decide) (hb hby d7_63) ?_
                                  intro T46 h46 X46 e46 W46 A46
                                  replace A_qa : Ars Z h46 qa .boolean (((([(.int (0 : Int32)), (.int (0 : Int32)), (.int (0 : Int32)), (.int (0 : Int32))].set iq0 (Value.int (1 : Int32))).set iq1 (Value.int (1 : Int32))).set iq2 (Value.int (1 : Int32))).set iq3 (Value.int (1 : Int32))) := A46
                                  have N46 := Fr.snoc X46 N42 g_qa
                                  have Z46 : n0 ≤ h46.size := Nat.le_trans Z42 (Nat.le_of_eq W46.size.symm)
                                  show Run p e below s _ _ _ (T46.setTop (mkF m 64 #[.val (.ref this), .val (.ref seg), .val (.int (452 : Int32)), .val (.int y3), .val (.int (y3 &&& (15 : Int32)))] []))
                                  refine Run.x_goto (q := 2) X46 hx (hb hby d7_64) (by decide) (by decide) ?_
                                  refine Run.x_iloadN (q := 3) X46 hx (hb hby d7_2) rfl rfl ?_
                                  refine Run.x_aloadN (q := 4) X46 hx (hb hby d7_3) rfl rfl rfl ?_
                                  replace A_seg := A_seg.other W46 ne_seg_qa
                                  refine Run.alen X46 hx hZ e46 A_seg (z := ll) hln (hb hby d7_4) ?_
                                  show Run p e below s _ _ _ (T46.setTop (mkF m 5 #[.val (.ref this), .val (.ref seg), .val (.int (452 : Int32)), .val (.int y3), .val (.int (y3 &&& (15 : Int32)))] [(.int ll), (.int (452 : Int32))]))
                                  have hend : ¬ (452 : Int32) < ll := by rw [lt32]; have k : (452 : Int32).toInt = 452 := rfl; omega
                                  refine Run.x_icmpYes (q := 67) X46 hx (hb hby d7_5) (flt hend).2.1 (by decide) (by decide) ?_
                                  refine Run.x_iconst (q := 68) X46 hx (hb hby d7_67) (z := (1 : Int32)) rfl rfl ?_
                                  replace E_this := (((E_this.wr W32).wr W34).wr W42).wr W46
                                  replace F_this_quantisation := F_this_quantisation.other W46 (Or.inl ne_this_qa)
                                  refine Run.retN X46 hx hlk e46 (t := .boolean) hret (by simp) (z' := (1 : Int32)) (by decide) (hb hby d7_68) (by decide) (by decide) ?_
                                  have kk : (0 : Int32).toInt = 0 ∧ (129 : Int32).toInt = 129 ∧ (194 : Int32).toInt = 194 ∧ (323 : Int32).toInt = 323 ∧ (452 : Int32).toInt = 452 ∧ (4 : Int32).toInt = 4 := by decide
                                  have hle3 : (452 : Int) ≤ ll.toInt := by have q := hc51'''; rw [lt32] at q; omega
                                  have hle2 : (323 : Int) ≤ ll.toInt := by have q := hc51''; rw [lt32] at q; omega
                                  have hle1 : (194 : Int) ≤ ll.toInt := by have q := hc51'; rw [lt32] at q; omega
                                  have hle0 : (129 : Int) ≤ ll.toInt := by have q := hc51; rw [lt32] at q; omega
                                  exact PureK_mk ((own_b1 (own_rd_step ((own_n4 y0).mp hc45) (by rw [hs0]; rfl : (0 : Int) + 1 + own_sz y0 = 129) hle0 (own_rd_step ((own_n4 y1).mp hc45') (by rw [hs1]; rfl : (129 : Int) + 1 + own_sz y1 = 194) hle1 (own_rd_step ((own_n4 y2).mp hc45'') (by rw [hs2]; rfl : (194 : Int) + 1 + own_sz y2 = 323) hle2 (own_rd_step ((own_n4 y3).mp hc45''') (by rw [hs3]; rfl : (323 : Int) + 1 + own_sz y3 = 452) hle3 own_rd0))))).symm) N46
                              · skip
                                refine Run.x_icmpYes (q := 54) X42 hx (hb hby d7_45) (flt hc45''').2.1 (by decide) (by decide) ?_
                                refine Run.x_iconst (q := 55) X42 hx (hb hby d7_54) (z := (0 : Int32)) rfl rfl ?_
                                replace E_this := ((E_this.wr W32).wr W34).wr W42
                                replace F_this_quantisation := F_this_quantisation.other W42 (Or.inl ne_this_qa)
                                refine Run.retN X42 hx hlk e42 (t := .boolean) hret (by simp) (z' := (0 : Int32)) (by decide) (hb hby d7_55) (by decide) (by decide) ?_
                                have kk : (0 : Int32).toInt = 0 ∧ (129 : Int32).toInt = 129 ∧ (194 : Int32).toInt = 194 ∧ (323 : Int32).toInt = 323 ∧ (452 : Int32).toInt = 452 ∧ (4 : Int32).toInt = 4 := by decide
                                have hne3 : ¬ (323 : Int) = ll.toInt := by have q := hc5'''; rw [lt32] at q; omega
                                have hne2 : ¬ (194 : Int) = ll.toInt := by have q := hc5''; rw [lt32] at q; omega
                                have hne1 : ¬ (129 : Int) = ll.toInt := by have q := hc5'; rw [lt32] at q; omega
                                have hne0 : ¬ (0 : Int) = ll.toInt := by have q := hc5; rw [lt32] at q; omega
                                exact PureK_mk ((own_b0 (own_rd_bk hne0 (by rw [hs0]; rfl : (0 : Int) + 1 + own_sz y0 = 129) (own_rd_bk hne1 (by rw [hs1]; rfl : (129 : Int) + 1 + own_sz y1 = 194) (own_rd_bk hne2 (by rw [hs2]; rfl : (194 : Int) + 1 + own_sz y2 = 323) (own_rd_no1 hne3 (mt (own_n4 y3).mpr hc45''')))))).symm) N42
                          · skip
                            refine Run.x_icmpYes (q := 67) X42 hx (hb hby d7_5) (flt hc5''').2.1 (by decide) (by decide) ?_
                            refine Run.x_iconst (q := 68) X42 hx (hb hby d7_67) (z := (1 : Int32)) rfl rfl ?_
                            replace E_this := ((E_this.wr W32).wr W34).wr W42
                            replace F_this_quantisation := F_this_quantisation.other W42 (Or.inl ne_this_qa)
                            refine Run.retN X42 hx hlk e42 (t := .boolean) hret (by simp) (z' := (1 : Int32)) (by decide) (hb hby d7_68) (by decide) (by decide) ?_
                            have kk : (0 : Int32).toInt = 0 ∧ (129 : Int32).toInt = 129 ∧ (194 : Int32).toInt = 194 ∧ (323 : Int32).toInt = 323 ∧ (4 : Int32).toInt = 4 := by decide
                            have heq : (323 : Int) = ll.toInt := by have q := hc5'''; rw [lt32] at q; have q2 := hc51''; rw [lt32] at q2; omega
                            have hle2 : (323 : Int) ≤ ll.toInt := by have q := hc51''; rw [lt32] at q; omega
                            have hle1 : (194 : Int) ≤ ll.toInt := by have q := hc51'; rw [lt32] at q; omega
                            have hle0 : (129 : Int) ≤ ll.toInt := by have q := hc51; rw [lt32] at q; omega
                            exact PureK_mk ((own_b1 (own_rd_step ((own_n4 y0).mp hc45) (by rw [hs0]; rfl : (0 : Int) + 1 + own_sz y0 = 129) hle0 (own_rd_step ((own_n4 y1).mp hc45') (by rw [hs1]; rfl : (129 : Int) + 1 + own_sz y1 = 194) hle1 (own_rd_step ((own_n4 y2).mp hc45'') (by rw [hs2]; rfl : (194 : Int) + 1 + own_sz y2 = 323) hle2 (own_rd_eq heq))))).symm) N42
                      · skip
                        refine Run.x_icmpYes (q := 54) X34 hx (hb hby d7_45) (flt hc45'').2.1 (by decide) (by decide) ?_
                        refine Run.x_iconst (q := 55) X34 hx (hb hby d7_54) (z := (0 : Int32)) rfl rfl ?_
                        replace E_this := (E_this.wr W32).wr W34
                        replace F_this_quantisation := F_this_quantisation.other W34 (Or.inl ne_this_qa)
                        refine Run.retN X34 hx hlk e34 (t := .boolean) hret (by simp) (z' := (0 : Int32)) (by decide) (hb hby d7_55) (by decide) (by decide) ?_
                        have kk : (0 : Int32).toInt = 0 ∧ (129 : Int32).toInt = 129 ∧ (194 : Int32).toInt = 194 ∧ (323 : Int32).toInt = 323 ∧ (4 : Int32).toInt = 4 := by decide
                        have hne2 : ¬ (194 : Int) = ll.toInt := by have q := hc5''; rw [lt32] at q; omega
                        have hne1 : ¬ (129 : Int) = ll.toInt := by have q := hc5'; rw [lt32] at q; omega
                        have hne0 : ¬ (0 : Int) = ll.toInt := by have q := hc5; rw [lt32] at q; omega
                        exact PureK_mk ((own_b0 (own_rd_bk hne0 (by rw [hs0]; rfl : (0 : Int) + 1 + own_sz y0 = 129) (own_rd_bk hne1 (by rw [hs1]; rfl : (129 : Int) + 1 + own_sz y1 = 194) (own_rd_no1 hne2 (mt (own_n4 y2).mpr hc45''))))).symm) N34
                  · skip
                    refine Run.x_icmpYes (q := 67) X34 hx (hb hby d7_5) (flt hc5'').2.1 (by decide) (by decide) ?_
                    refine Run.x_iconst (q := 68) X34 hx (hb hby d7_67) (z := (1 : Int32)) rfl rfl ?_
                    replace E_this := (E_this.wr W32).wr W34
                    replace F_this_quantisation := F_this_quantisation.other W34 (Or.inl ne_this_qa)
                    refine Run.retN X34 hx hlk e34 (t := .boolean) hret (by simp) (z' := (1 : Int32)) (by decide) (hb hby d7_68) (by decide) (by decide) ?_
                    have kk : (0 : Int32).toInt = 0 ∧ (129 : Int32).toInt = 129 ∧ (194 : Int32).toInt = 194 ∧ (4 : Int32).toInt = 4 := by decide
                    have heq : (194 : Int) = ll.toInt := by have q := hc5''; rw [lt32] at q; have q2 := hc51'; rw [lt32] at q2; omega
                    have hle1 : (194 : Int) ≤ ll.toInt := by have q := hc51'; rw [lt32] at q; omega
                    have hle0 : (129 : Int) ≤ ll.toInt := by have q := hc51; rw [lt32] at q; omega
                    exact PureK_mk ((own_b1 (own_rd_step ((own_n4 y0).mp hc45) (by rw [hs0]; rfl : (0 : Int) + 1 + own_sz y0 = 129) hle0 (own_rd_step ((own_n4 y1).mp hc45') (by rw [hs1]; rfl : (129 : Int) + 1 + own_sz y1 = 194) hle1 (own_rd_eq heq)))).symm) N34
              · skip
                refine Run.x_icmpYes (q := 54) X32 hx (hb hby d7_45) (flt hc45').2.1 (by decide) (by decide) ?_
                refine Run.x_iconst (q := 55) X32 hx (hb hby d7_54) (z := (0 : Int32)) rfl rfl ?_
                replace E_this := E_this.wr W32
                replace F_this_quantisation := F_this_quantisation.other W32 (Or.inl ne_this_qa)
                refine Run.retN X32 hx hlk e32 (t := .boolean) hret (by simp) (z' := (0 : Int32)) (by decide) (hb hby d7_55) (by decide) (by decide) ?_
                have kk : (0 : Int32).toInt = 0 ∧ (129 : Int32).toInt = 129 ∧ (194 : Int32).toInt = 194 ∧ (4 : Int32).toInt = 4 := by decide
                have hne1 : ¬ (129 : Int) = ll.toInt := by have q := hc5'; rw [lt32] at q; omega
                have hne0 : ¬ (0 : Int) = ll.toInt := by have q := hc5; rw [lt32] at q; omega
                exact PureK_mk ((own_b0 (own_rd_bk hne0 (by rw [hs0]; rfl : (0 : Int) + 1 + own_sz y0 = 129) (own_rd_no1 hne1 (mt (own_n4 y1).mpr hc45')))).symm) N32
            · have hs1 := own_s16' hk1
              refine Run.x_ifYes (q := 37) X32 hx (hb hby d7_29) ((if0 _ _).trans (feq (mt (own_sh4 hy1.1 hy1.2).mp hk1)).2) (by decide) (by decide) ?_
              refine Run.x_sipush (q := 40) X32 hx (hb hby d7_37) (z := (128 : Int32)) rfl rfl ?_
              refine Run.x_iadd (q := 41) X32 hx (hb hby d7_40) (z := (258 : Int32)) (by decide) rfl ?_
              refine Run.x_istoreN (q := 42) X32 hx #[.val (.ref this), .val (.ref seg), .val (.int (258 : Int32)), .val (.int y1), .val (.int (y1 &&& (15 : Int32)))] (hb hby d7_41) rfl rfl ?_
              refine Run.x_iload (q := 44) X32 hx (hb hby d7_42) rfl rfl ?_
              refine Run.x_iconst (q := 45) X32 hx (hb hby d7_44) (z := (4 : Int32)) rfl rfl ?_
              by_cases hc45' : (y1 &&& (15 : Int32)) < (4 : Int32)
              · skip
                refine Run.x_icmpNo (q := 48) X32 hx (hb hby d7_45) (tlt hc45').2.1 rfl ?_
                refine Run.x_iloadN (q := 49) X32 hx (hb hby d7_48) rfl rfl ?_
                refine Run.x_aloadN (q := 50) X32 hx (hb hby d7_49) rfl rfl rfl ?_
                refine Run.alen X32 hx hZ e32 A_seg (z := ll) hln (hb hby d7_50) ?_
                show Run p e below s _ _ _ (T32.setTop (mkF m 51 #[.val (.ref this), .val (.ref seg), .val (.int (258 : Int32)), .val (.int y1), .val (.int (y1 &&& (15 : Int32)))] [(.int ll), (.int (258 : Int32))]))
                by_cases hc51' : ll < (258 : Int32)
                · skip
                  refine Run.x_icmpNo (q := 54) X32 hx (hb hby d7_51) (tlt hc51').2.2.2 rfl ?_
                  refine Run.x_iconst (q := 55) X32 hx (hb hby d7_54) (z := (0 : Int32)) rfl rfl ?_
                  replace E_this := E_this.wr W32
                  replace F_this_quantisation := F_this_quantisation.other W32 (Or.inl ne_this_qa)
                  refine Run.retN X32 hx hlk e32 (t := .boolean) hret (by simp) (z' := (0 : Int32)) (by decide) (hb hby d7_55) (by decide) (by decide) ?_
                  have kk : (0 : Int32).toInt = 0 ∧ (129 : Int32).toInt = 129 ∧ (258 : Int32).toInt = 258 ∧ (4 : Int32).toInt = 4 := by decide
                  have hgt : ¬ (258 : Int) ≤ ll.toInt := by have q := hc51'; rw [lt32] at q; omega
                  have hne1 : ¬ (129 : Int) = ll.toInt := by have q := hc5'; rw [lt32] at q; omega
                  have hne0 : ¬ (0 : Int) = ll.toInt := by have q := hc5; rw [lt32] at q; omega
                  exact PureK_mk ((own_b0 (own_rd_bk hne0 (by rw [hs0]; rfl : (0 : Int) + 1 + own_sz y0 = 129) (own_rd_no2 hne1 (by rw [hs1]; rfl : (129 : Int) + 1 + own_sz y1 = 258) hgt))).symm) N32
                · skip
                  refine Run.x_icmpYes (q := 56) X32 hx (hb hby d7_51) (flt hc51').2.2.2 (by decide) (by decide) ?_
                  refine Run.x_aloadN (q := 57) X32 hx (hb hby d7_56) rfl rfl rfl ?_
                  replace F_this_quantisation := F_this_quantisation.other W32 (Or.inl ne_this_qa)
                  obtain ⟨T47, X47, e47, st47⟩ := getF X32 hx hZ hown (host := "") (Or.inl (hw _ (List.mem_of_getElem? (i := 22) rfl))) Via.refl e32 F_this_quantisation (g := (mkF m 57 #[.val (.ref this), .val (.ref seg), .val (.int (258 : Int32)), .val (.int y1), .val (.int (y1 &&& (15 : Int32)))] [(.ref this)])) rfl rfl (hb hby d7_57)
                  refine Run.st st47 ?_
                  show Run p e below s _ _ _ (T47.setTop (mkF m 60 #[.val (.ref this), .val (.ref seg), .val (.int (258 : Int32)), .val (.int y1), .val (.int (y1 &&& (15 : Int32)))] [(.ref qa)]))
                  refine Run.x_iload (q := 62) X47 hx (hb hby d7_60) rfl rfl ?_
                  refine Run.x_iconst (q := 63) X47 hx (hb hby d7_62) (z := (1 : Int32)) rfl rfl ?_
                  have hj63 := own_n15 y1
                  obtain ⟨iq1, hiq1⟩ : ∃ i : Nat, (y1 &&& (15 : Int32)).toInt = i := ⟨(y1 &&& (15 : Int32)).toInt.toNat, by omega⟩
                  have hib1 : iq1 < (([(.int (0 : Int32)), (.int (0 : Int32)), (.int (0 : Int32)), (.int (0 : Int32))].set iq0 (Value.int (1 : Int32))) : List Value).length := by
                    have q4 := hc45'; rw [lt32] at q4; have k4 : (4 : Int32).toInt = 4 := rfl; have hh := hiq1; simp only [List.length_set, List.length_cons, List.length_nil]; omega
                  refine Run.stZ X47 hx hZ e47 A_qa (i := iq1) hiq1 hib1 (z' := (1 : Int32)) (by decide) (hb hby d7_63) ?_
                  intro T48 h48 X48 e48 W48 A48
                  replace A_qa : Ars Z h48 qa .boolean (([(.int (0 : Int32)), (.int (0 : Int32)), (.int (0 : Int32)), (.int (0 : Int32))].set iq0 (Value.int (1 : Int32))).set iq1 (Value.int (1 : Int32))) := A48
                  have N48 := Fr.snoc X48 N32 g_qa
                  have Z48 : n0 ≤ h48.size := Nat.le_trans Z32 (Nat.le_of_eq W48.size.symm)
                  show Run p e below s _ _ _ (T48.setTop (mkF m 64 #[.val (.ref this), .val (.ref seg), .val (.int (258 : Int32)), .val (.int y1), .val (.int (y1 &&& (15 : Int32)))] []))
                  refine Run.x_goto (q := 2) X48 hx (hb hby d7_64) (by decide) (by decide) ?_
                  refine Run.x_iloadN (q := 3) X48 hx (hb hby d7_2) rfl rfl ?_
                  refine Run.x_aloadN (q := 4) X48 hx (hb hby d7_3) rfl rfl rfl ?_
                  replace A_seg := A_seg.other W48 ne_seg_qa
                  refine Run.alen X48 hx hZ e48 A_seg (z := ll) hln (hb hby d7_4) ?_
                  show Run p e below s _ _ _ (T48.setTop (mkF m 5 #[.val (.ref this), .val (.ref seg), .val (.int (258 : Int32)), .val (.int y1), .val (.int (y1 &&& (15 : Int32)))] [(.int ll), (.int (258 : Int32))]))
                  by_cases hc5'' : (258 : Int32) < ll
                  · skip
                    refine Run.x_icmpNo (q := 8) X48 hx (hb hby d7_5) (tlt hc5'').2.1 rfl ?_
                    refine Run.x_aloadN (q := 9) X48 hx (hb hby d7_8) rfl rfl rfl ?_
                    refine Run.x_iloadN (q := 10) X48 hx (hb hby d7_9) rfl rfl ?_
                    refine Run.x_iinc (q := 13) X48 hx #[.val (.ref this), .val (.ref seg), .val (.int (259 : Int32)), .val (.int y1), .val (.int (y1 &&& (15 : Int32)))] (hb hby d7_10) rfl (z := (259 : Int32)) (by decide) rfl rfl ?_
                    have hlt2 : 258 < vs.length := by have q := hc5''; rw [lt32] at q; have k : (258 : Int32).toInt = 258 := rfl; omega
                    have hel2 := hq2 258 (by rw [hs0, hs1]; rfl) hlt2
                    refine Run.ldB X48 hx hZ e48 A_seg (i := 258) (v := (.int y2.toInt8.toInt32)) (by decide) hel2 (hb hby d7_13) ?_
                    show Run p e below s _ _ _ (T48.setTop (mkF m 14 #[.val (.ref this), .val (.ref seg), .val (.int (259 : Int32)), .val (.int y1), .val (.int (y1 &&& (15 : Int32)))] [(.int y2.toInt8.toInt32)]))
                    refine Run.x_sipush (q := 17) X48 hx (hb hby d7_14) (z := (255 : Int32)) rfl rfl ?_
                    refine Run.x_iand (q := 18) X48 hx (hb hby d7_17) rfl rfl ?_
                    rw [own_back hy2.1 hy2.2]
                    show Run p e below s _ _ _ (T48.setTop (mkF m 18 #[.val (.ref this), .val (.ref seg), .val (.int (259 : Int32)), .val (.int y1), .val (.int (y1 &&& (15 : Int32)))] [(.int y2)]))
                    refine Run.x_istoreN (q := 19) X48 hx #[.val (.ref this), .val (.ref seg), .val (.int (259 : Int32)), .val (.int y2), .val (.int (y1 &&& (15 : Int32)))] (hb hby d7_18) rfl rfl ?_
                    refine Run.x_iloadN (q := 20) X48 hx (hb hby d7_19) rfl rfl ?_
                    refine Run.x_bipush (q := 22) X48 hx (hb hby d7_20) (z := (15 : Int32)) rfl rfl ?_
                    refine Run.x_iand (q := 23) X48 hx (hb hby d7_22) rfl rfl ?_
                    refine Run.x_istore (q := 25) X48 hx #[.val (.ref this), .val (.ref seg), .val (.int (259 : Int32)), .val (.int y2), .val (.int (y2 &&& (15 : Int32)))] (hb hby d7_23) rfl rfl ?_
                    refine Run.x_iloadN (q := 26) X48 hx (hb hby d7_25) rfl rfl ?_
                    refine Run.x_iloadN (q := 27) X48 hx (hb hby d7_26) rfl rfl ?_
                    refine Run.x_iconst (q := 28) X48 hx (hb hby d7_27) (z := (4 : Int32)) rfl rfl ?_
                    refine Run.x_ishr (q := 29) X48 hx (hb hby d7_28) rfl rfl ?_
                    by_cases hk2 : y2 < 16
                    · have hs2 := own_s16 hk2
                      refine Run.x_ifNo (q := 32) X48 hx (hb hby d7_29) ((if0 _ _).trans (teq ((own_sh4 hy2.1 hy2.2).mpr hk2)).2) rfl ?_
                      refine Run.x_bipush (q := 34) X48 hx (hb hby d7_32) (z := (64 : Int32)) rfl rfl ?_
                      refine Run.x_goto (q := 40) X48 hx (hb hby d7_34) (by decide) (by decide) ?_
                      refine Run.x_iadd (q := 41) X48 hx (hb hby d7_40) (z := (323 : Int32)) (by decide) rfl ?_
                      refine Run.x_istoreN (q := 42) X48 hx #[.val (.ref this), .val (.ref seg), .val (.int (323 : Int32)), .val (.int y2), .val (.int (y2 &&& (15 : Int32)))] (hb hby d7_41) rfl rfl ?_
                      refine Run.x_iload (q := 44) X48 hx (hb hby d7_42) rfl rfl ?_
                      refine Run.x_iconst (q := 45) X48 hx (hb hby d7_44) (z := (4 : Int32)) rfl rfl ?_
                      by_cases hc45'' : (y2 &&& (15 : Int32)) < (4 : Int32)
                      · skip
                        refine Run.x_icmpNo (q := 48) X48 hx (hb hby d7_45) (tlt hc45'').2.1 rfl ?_
                        refine Run.x_iloadN (q := 49) X48 hx (hb hby d7_48) rfl rfl ?_
                        refine Run.x_aloadN (q := 50) X48 hx (hb hby d7_49) rfl rfl rfl ?_
                        refine Run.alen X48 hx hZ e48 A_seg (z := ll) hln (hb hby d7_50) ?_
                        show Run p e below s _ _ _ (T48.setTop (mkF m 51 #[.val (.ref this), .val (.ref seg), .val (.int (323 : Int32)), .val (.int y2), .val (.int (y2 &&& (15 : Int32)))] [(.int ll), (.int (323 : Int32))]))
                        by_cases hc51'' : ll < (323 : Int32)
                        · skip
                          refine Run.x_icmpNo (q := 54) X48 hx (hb hby d7_51) (tlt hc51'').2.2.2 rfl ?_
                          refine Run.x_iconst (q := 55) X48 hx (hb hby d7_54) (z := (0 : Int32)) rfl rfl ?_
                          replace E_this := (E_this.wr W32).wr W48
                          replace F_this_quantisation := F_this_quantisation.other W48 (Or.inl ne_this_qa)
                          refine Run.retN X48 hx hlk e48 (t := .boolean) hret (by simp) (z' := (0 : Int32)) (by decide) (hb hby d7_55) (by decide) (by decide) ?_
                          have kk : (0 : Int32).toInt = 0 ∧ (129 : Int32).toInt = 129 ∧ (258 : Int32).toInt = 258 ∧ (323 : Int32).toInt = 323 ∧ (4 : Int32).toInt = 4 := by decide
                          have hgt : ¬ (323 : Int) ≤ ll.toInt := by have q := hc51''; rw [lt32] at q; omega
                          have hne2 : ¬ (258 : Int) = ll.toInt := by have q := hc5''; rw [lt32] at q; omega
                          have hne1 : ¬ (129 : Int) = ll.toInt := by have q := hc5'; rw [lt32] at q; omega
                          have hne0 : ¬ (0 : Int) = ll.toInt := by have q := hc5; rw [lt32] at q; omega
                          exact PureK_mk ((own_b0 (own_rd_bk hne0 (by rw [hs0]; rfl : (0 : Int) + 1 + own_sz y0 = 129) (own_rd_bk hne1 (by rw [hs1]; rfl : (129 : Int) + 1 + own_sz y1 = 258) (own_rd_no2 hne2 (by rw [hs2]; rfl : (258 : Int) + 1 + own_sz y2 = 323) hgt)))).symm) N48
                        · skip
                          refine Run.x_icmpYes (q := 56) X48 hx (hb hby d7_51) (flt hc51'').2.2.2 (by decide) (by decide) ?_
                          refine Run.x_aloadN (q := 57) X48 hx (hb hby d7_56) rfl rfl rfl ?_
                          replace F_this_quantisation := F_this_quantisation.other W48 (Or.inl ne_this_qa)
                          obtain ⟨T49, X49, e49, st49⟩ := getF X48 hx hZ hown (host := "") (Or.inl (hw _ (List.mem_of_getElem? (i := 22) rfl))) Via.refl e48 F_this_quantisation (g := (mkF m 57 #[.val (.ref this), .val (.ref seg), .val (.int (323 : Int32)), .val (.int y2), .val (.int (y2 &&& (15 : Int32)))] [(.ref this)])) rfl rfl (hb hby d7_57)
                          refine Run.st st49 ?_
                          show Run p e below s _ _ _ (T49.setTop (mkF m 60 #[.val (.ref this), .val (.ref seg), .val (.int (323 : Int32)), .val (.int y2), .val (.int (y2 &&& (15 : Int32)))] [(.ref qa)]))
                          refine Run.x_iload (q := 62) X49 hx (hb hby d7_60) rfl rfl ?_
                          refine Run.x_iconst (q := 63) X49 hx (hb hby d7_62) (z := (1 : Int32)) rfl rfl ?_
                          have hj63 := own_n15 y2
                          obtain ⟨iq2, hiq2⟩ : ∃ i : Nat, (y2 &&& (15 : Int32)).toInt = i := ⟨(y2 &&& (15 : Int32)).toInt.toNat, by omega⟩
                          have hib2 : iq2 < ((([(.int (0 : Int32)), (.int (0 : Int32)), (.int (0 : Int32)), (.int (0 : Int32))].set iq0 (Value.int (1 : Int32))).set iq1 (Value.int (1 : Int32))) : List Value).length := by
                            have q4 := hc45''; rw [lt32] at q4; have k4 : (4 : Int32).toInt = 4 := rfl; have hh := hiq2; simp only [List.length_set, List.length_cons, List.length_nil]; omega
                          refine Run.stZ X49 hx hZ e49 A_qa (i := iq2) hiq2 hib2 (z' := (1 : Int32)) (by decide) (hb hby d7_63) ?_
                          intro T50 h50 X50 e50 W50 A50
                          replace A_qa : Ars Z h50 qa .boolean ((([(.int (0 : Int32)), (.int (0 : Int32)), (.int (0 : Int32)), (.int (0 : Int32))].set iq0 (Value.int (1 : Int32))).set iq1 (Value.int (1 : Int32))).set iq2 (Value.int (1 : Int32))) := A50
                          have N50 := Fr.snoc X50 N48 g_qa
                          have Z50 : n0 ≤ h50.size := Nat.le_trans Z48 (Nat.le_of_eq W50.size.symm)
                          show Run p e below s _ _ _ (T50.setTop (mkF m 64 #[.val (.ref this), .val (.ref seg), .val (.int (323 : Int32)), .val (.int y2), .val (.int (y2 &&& (15 : Int32)))] []))
                          refine Run.x_goto (q := 2) X50 hx (hb hby d7_64) (by decide) (by decide) ?_
                          refine Run.x_iloadN (q := 3) X50 hx (hb hby d7_2) rfl rfl ?_
                          refine Run.x_aloadN (q := 4) X50 hx (hb hby d7_3) rfl rfl rfl ?_
                          replace A_seg := A_seg.other W50 ne_seg_qa
                          refine Run.alen X50 hx hZ e50 A_seg (z := ll) hln (hb hby d7_4) ?_
                          show Run p e below s _ _ _ (T50.setTop (mkF m 5 #[.val (.ref this), .val (.ref seg), .val (.int (323 : Int32)), .val (.int y2), .val (.int (y2 &&& (15 : Int32)))] [(.int ll), (.int (323 : Int32))]))
                          by_cases hc5''' : (323 : Int32) < ll
                          · skip
                            refine Run.x_icmpNo (q := 8) X50 hx (hb hby d7_5) (tlt hc5''').2.1 rfl ?_
                            refine Run.x_aloadN (q := 9) X50 hx (hb hby d7_8) rfl rfl rfl ?_
                            refine Run.x_iloadN (q := 10) X50 hx (hb hby d7_9) rfl rfl ?_
                            refine Run.x_iinc (q := 13) X50 hx #[.val (.ref this), .val (.ref seg), .val (.int (324 : Int32)), .val (.int y2), .val (.int (y2 &&& (15 : Int32)))] (hb hby d7_10) rfl (z := (324 : Int32)) (by decide) rfl rfl ?_
                            have hlt3 : 323 < vs.length := by have q := hc5'''; rw [lt32] at q; have k : (323 : Int32).toInt = 323 := rfl; omega
                            have hel3 := hq3 323 (by rw [hs0, hs1, hs2]; rfl) hlt3
                            refine Run.ldB X50 hx hZ e50 A_seg (i := 323) (v := (.int y3.toInt8.toInt32)) (by decide) hel3 (hb hby d7_13) ?_
                            show Run p e below s _ _ _ (T50.setTop (mkF m 14 #[.val (.ref this), .val (.ref seg), .val (.int (324 : Int32)), .val (.int y2), .val (.int (y2 &&& (15 : Int32)))] [(.int y3.toInt8.toInt32)]))
                            refine Run.x_sipush (q := 17) X50 hx (hb hby d7_14) (z := (255 : Int32)) rfl rfl ?_
                            refine Run.x_iand (q := 18) X50 hx (hb hby d7_17) rfl rfl ?_
                            rw [own_back hy3.1 hy3.2]
                            show Run p e below s _ _ _ (T50.setTop (mkF m 18 #[.val (.ref this), .val (.ref seg), .val (.int (324 : Int32)), .val (.int y2), .val (.int (y2 &&& (15 : Int32)))] [(.int y3)]))
                            refine Run.x_istoreN (q := 19) X50 hx #[.val (.ref this), .val (.ref seg), .val (.int (324 : Int32)), .val (.int y3), .val (.int (y2 &&& (15 : Int32)))] (hb hby d7_18) rfl rfl ?_
                            refine Run.x_iloadN (q := 20) X50 hx (hb hby d7_19) rfl rfl ?_
                            refine Run.x_bipush (q := 22) X50 hx (hb hby d7_20) (z := (15 : Int32)) rfl rfl ?_
                            refine Run.x_iand (q := 23) X50 hx (hb hby d7_22) rfl rfl ?_
                            refine Run.x_istore (q := 25) X50 hx #[.val (.ref this), .val (.ref seg), .val (.int (324 : Int32)), .val (.int y3), .val (.int (y3 &&& (15 : Int32)))] (hb hby d7_23) rfl rfl ?_
                            refine Run.x_iloadN (q := 26) X50 hx (hb hby d7_25) rfl rfl ?_
                            refine Run.x_iloadN (q := 27) X50 hx (hb hby d7_26) rfl rfl ?_
                            refine Run.x_iconst (q := 28) X50 hx (hb hby d7_27) (z := (4 : Int32)) rfl rfl ?_
                            refine Run.x_ishr (q := 29) X50 hx (hb hby d7_28) rfl rfl ?_
                            by_cases hk3 : y3 < 16
                            · have hs3 := own_s16 hk3
                              refine Run.x_ifNo (q := 32) X50 hx (hb hby d7_29) ((if0 _ _).trans (teq ((own_sh4 hy3.1 hy3.2).mpr hk3)).2) rfl ?_
                              refine Run.x_bipush (q := 34) X50 hx (hb hby d7_32) (z := (64 : Int32)) rfl rfl ?_
                              refine Run.x_goto (q := 40) X50 hx (hb hby d7_34) (by decide) (by decide) ?_
                              refine Run.x_iadd (q := 41) X50 hx (hb hby d7_40) (z := (388 : Int32)) (by decide) rfl ?_
                              refine Run.x_istoreN (q := 42) X50 hx #[.val (.ref this), .val (.ref seg), .val (.int (388 : Int32)), .val (.int y3), .val (.int (y3 &&& (15 : Int32)))] (hb hby d7_41) rfl rfl ?_
                              refine Run.x_iload (q := 44) X50 hx (hb hby d7_42) rfl rfl ?_
                              refine Run.x_iconst (q := 45) X50 hx (hb hby d7_44) (z := (4 : Int32)) rfl rfl ?_
                              by_cases hc45''' : (y3 &&& (15 : Int32)) < (4 : Int32)
                              · skip
                                refine Run.x_icmpNo (q := 48) X50 hx (hb hby d7_45) (tlt hc45''').2.1 rfl ?_
                                refine Run.x_iloadN (q := 49) X50 hx (hb hby d7_48) rfl rfl ?_
                                refine Run.x_aloadN (q := 50) X50 hx (hb hby d7_49) rfl rfl rfl ?_
                                refine Run.alen X50 hx hZ e50 A_seg (z := ll) hln (hb hby d7_50) ?_
                                show Run p e below s _ _ _ (T50.setTop (mkF m 51 #[.val (.ref this), .val (.ref seg), .val (.int (388 : Int32)), .val (.int y3), .val (.int (y3 &&& (15 : Int32)))] [(.int ll), (.int (388 : Int32))]))
                                by_cases hc51''' : ll < (388 : Int32)
                                · skip
                                  refine Run.x_icmpNo (q := 54) X50 hx (hb hby d7_51) (tlt hc51''').2.2.2 rfl ?_
                                  refine Run.x_iconst (q := 55) X50 hx (hb hby d7_54) (z := (0 : Int32)) rfl rfl ?_
                                  replace E_this := ((E_this.wr W32).wr W48).wr W50
                                  replace F_this_quantisation := F_this_quantisation.other W50 (Or.inl ne_this_qa)
                                  refine Run.retN X50 hx hlk e50 (t := .boolean) hret (by simp) (z' := (0 : Int32)) (by decide) (hb hby d7_55) (by decide) (by decide) ?_
                                  have kk : (0 : Int32).toInt = 0 ∧ (129 : Int32).toInt = 129 ∧ (258 : Int32).toInt = 258 ∧ (323 : Int32).toInt = 323 ∧ (388 : Int32).toInt = 388 ∧ (4 : Int32).toInt = 4 := by decide
                                  have hgt : ¬ (388 : Int) ≤ ll.toInt := by have q := hc51'''; rw [lt32] at q; omega
                                  have hne3 : ¬ (323 : Int) = ll.toInt := by have q := hc5'''; rw [lt32] at q; omega
                                  have hne2 : ¬ (258 : Int) = ll.toInt := by have q := hc5''; rw [lt32] at q; omega
                                  have hne1 : ¬ (129 : Int) = ll.toInt := by have q := hc5'; rw [lt32] at q; omega
                                  have hne0 : ¬ (0 : Int) = ll.toInt := by have q := hc5; rw [lt32] at q; omega
                                  exact PureK_mk ((own_b0 (own_rd_bk hne0 (by rw [hs0]; rfl : (0 : Int) + 1 + own_sz y0 = 129) (own_rd_bk hne1 (by rw [hs1]; rfl : (129 : Int) + 1 + own_sz y1 = 258) (own_rd_bk hne2 (by rw [hs2]; rfl : (258 : Int) + 1 + own_sz y2 = 323) (own_rd_no2 hne3 (by rw [hs3]; rfl : (323 : Int) + 1 + own_sz y3 = 388) hgt))))).symm) N50
                                · skip
                                  refine Run.x_icmpYes (q := 56) X50 hx (hb hby d7_51) (flt hc51''').2.2.2 (by decide) (by decide) ?_
                                  refine Run.x_aloadN (q := 57) X50 hx (hb hby d7_56) rfl rfl rfl ?_
                                  replace F_this_quantisation := F_this_quantisation.other W50 (Or.inl ne_this_qa)
                                  obtain ⟨T51, X51, e51, st51⟩ := getF X50 hx hZ hown (host := "") (Or.inl (hw _ (List.mem_of_getElem? (i := 22) rfl))) Via.refl e50 F_this_quantisation (g := (mkF m 57 #[.val (.ref this), .val (.ref seg), .val (.int (388 : Int32)), .val (.int y3), .val (.int (y3 &&& (15 : Int32)))] [(.ref this)])) rfl rfl (hb hby d7_57)
                                  refine Run.st st51 ?_
                                  show Run p e below s _ _ _ (T51.setTop (mkF m 60 #[.val (.ref this), .val (.ref seg), .val (.int (388 : Int32)), .val (.int y3), .val (.int (y3 &&& (15 : Int32)))] [(.ref qa)]))
                                  refine Run.x_iload (q := 62) X51 hx (hb hby d7_60) rfl rfl ?_
                                  refine Run.x_iconst (q := 63) X51 hx (hb hby d7_62) (z := (1 : Int32)) rfl rfl ?_
                                  have hj63 := own_n15 y3
                                  obtain ⟨iq3, hiq3⟩ : ∃ i : Nat, (y3 &&& (15 : Int32)).toInt = i := ⟨(y3 &&& (15 : Int32)).toInt.toNat, by omega⟩
                                  have hib3 : iq3 < (((([(.int (0 : Int32)), (.int (0 : Int32)), (.int (0 : Int32)), (.int (0 : Int32))].set iq0 (Value.int (1 : Int32))).set iq1 (Value.int (1 : Int32))).set iq2 (Value.int (1 : Int32))) : List Value).length := by
                                    have q4 := hc45'''; rw [lt32] at q4; have k4 : (4 : Int32).toInt = 4 := rfl; have hh := hiq3; simp only [List.length_set, List.length_cons, List.length_nil]; omega
                                  refine Run.stZ X51 hx hZ e51 A_qa (i := iq3) hiq3 hib3 (z' := (1 : Int32)) (by decide) (hb hby d7_63) ?_
                                  intro T52 h52 X52 e52 W52 A52
                                  replace A_qa : Ars Z h52 qa .boolean (((([(.int (0 : Int32)), (.int (0 : Int32)), (.int (0 : Int32)), (.int (0 : Int32))].set iq0 (Value.int (1 : Int32))).set iq1 (Value.int (1 : Int32))).set iq2 (Value.int (1 : Int32))).set iq3 (Value.int (1 : Int32))) := A52
                                  have N52 := Fr.snoc X52 N50 g_qa
                                  have Z52 : n0 ≤ h52.size := Nat.le_trans Z50 (Nat.le_of_eq W52.size.symm)
                                  show Run p e below s _ _ _ (T52.setTop (mkF m 64 #[.val (.ref this), .val (.ref seg), .val (.int (388 : Int32)), .val (.int y3), .val (.int (y3 &&& (15 : Int32)))] []))
                                  refine Run.x_goto (q := 2) X52 hx (hb hby d7_64) (by decide) (by decide) ?_
                                  refine Run.x_iloadN (q := 3) X52 hx (hb hby d7_2) rfl rfl ?_
                                  refine Run.x_aloadN (q := 4) X52 hx (hb hby d7_3) rfl rfl rfl ?_
                                  replace A_seg := A_seg.other W52 ne_seg_qa
                                  refine Run.alen X52 hx hZ e52 A_seg (z := ll) hln (hb hby d7_4) ?_
                                  show Run p e below s _ _ _ (T52.setTop (mkF m 5 #[.val (.ref this), .val (.ref seg), .val (.int (388 : Int32)), .val (.int y3), .val (.int (y3 &&& (15 : Int32)))] [(.int ll), (.int (388 : Int32))]))
                                  have hend : ¬ (388 : Int32) < ll := by rw [lt32]; have k : (388 : Int32).toInt = 388 := rfl; omega
                                  refine Run.x_icmpYes (q := 67) X52 hx (hb hby d7_5) (flt hend).2.1 (by decide) (by decide) ?_
                                  refine Run.x_iconst (q := 68) X52 hx (hb hby d7_67) (z := (1 : Int32)) rfl rfl ?_
                                  replace E_this := (((E_this.wr W32).wr W48).wr W50).wr W52
                                  replace F_this_quantisation := F_this_quantisation.other W52 (Or.inl ne_this_qa)
                                  refine Run.retN X52 hx hlk e52 (t := .boolean) hret (by simp) (z' := (1 : Int32)) (by decide) (hb hby d7_68) (by decide) (by decide) ?_
                                  have kk : (0 : Int32).toInt = 0 ∧ (129 : Int32).toInt = 129 ∧ (258 : Int32).toInt = 258 ∧ (323 : Int32).toInt = 323 ∧ (388 : Int32).toInt = 388 ∧ (4 : Int32).toInt = 4 := by decide
                                  have hle3 : (388 : Int) ≤ ll.toInt := by have q := hc51'''; rw [lt32] at q; omega
                                  have hle2 : (323 : Int) ≤ ll.toInt := by have q := hc51''; rw [lt32] at q; omega
                                  have hle1 : (258 : Int) ≤ ll.toInt := by have q := hc51'; rw [lt32] at q; omega
                                  have hle0 : (129 : Int) ≤ ll.toInt := by have q := hc51; rw [lt32] at q; omega
                                  exact PureK_mk ((own_b1 (own_rd_step ((own_n4 y0).mp hc45) (by rw [hs0]; rfl : (0 : Int) + 1 + own_sz y0 = 129) hle0 (own_rd_step ((own_n4 y1).mp hc45') (by rw [hs1]; rfl : (129 : Int) + 1 + own_sz y1 = 258) hle1 (own_rd_step ((own_n4 y2).mp hc45'') (by rw [hs2]; rfl : (258 : Int) + 1 + own_sz y2 = 323) hle2 (own_rd_step ((own_n4 y3).mp hc45''') (by rw [hs3]; rfl : (323 : Int) + 1 + own_sz y3 = 388) hle3 own_rd0))))).symm) N52
                              · skip
                                refine Run.x_icmpYes (q := 54) X50 hx (hb hby d7_45) (flt hc45''').2.1 (by decide) (by decide) ?_
                                refine Run.x_iconst (q := 55) X50 hx (hb hby d7_54) (z := (0 : Int32)) rfl rfl ?_
                                replace E_this := ((E_this.wr W32).wr W48).wr W50
                                replace F_this_quantisation := F_this_quantisation.other W50 (Or.inl ne_this_qa)
                                refine Run.retN X50 hx hlk e50 (t := .boolean) hret (by simp) (z' := (0 : Int32)) (by decide) (hb hby d7_55) (by decide) (by decide) ?_
                                have kk : (0 : Int32).toInt = 0 ∧ (129 : Int32).toInt = 129 ∧ (258 : Int32).toInt = 258 ∧ (323 : Int32).toInt = 323 ∧ (388 : Int32).toInt = 388 ∧ (4 : Int32).toInt = 4 := by decide
                                have hne3 : ¬ (323 : Int) = ll.toInt := by have q := hc5'''; rw [lt32] at q; omega
                                have hne2 : ¬ (258 : Int) = ll.toInt := by have q := hc5''; rw [lt32] at q; omega
                                have hne1 : ¬ (129 : Int) = ll.toInt := by have q := hc5'; rw [lt32] at q; omega
                                have hne0 : ¬ (0 : Int) = ll.toInt := by have q := hc5; rw [lt32] at q; omega
                                exact PureK_mk ((own_b0 (own_rd_bk hne0 (by rw [hs0]; rfl : (0 : Int) + 1 + own_sz y0 = 129) (own_rd_bk hne1 (by rw [hs1]; rfl : (129 : Int) + 1 + own_sz y1 = 258) (own_rd_bk hne2 (by rw [hs2]; rfl : (258 : Int) + 1 + own_sz y2 = 323) (own_rd_no1 hne3 (mt (own_n4 y3).mpr hc45''')))))).symm) N50
                            · have hs3 := own_s16' hk3
                              refine Run.x_ifYes (q := 37) X50 hx (hb hby d7_29) ((if0 _ _).trans (feq (mt (own_sh4 hy3.1 hy3.2).mp hk3)).2) (by decide) (by decide) ?_
                              refine Run.x_sipush (q := 40) X50 hx (hb hby d7_37) (z := (128 : Int32)) rfl rfl ?_
                              refine Run.x_iadd (q := 41) X50 hx (hb hby d7_40) (z := (452 : Int32)) (by decide) rfl ?_
                              refine Run.x_istoreN (q := 42) X50 hx #[.val (.ref this), .val (.ref seg), .val (.int (452 : Int32)), .val (.int y3), .val (.int (y3 &&& (15 : Int32)))] (hb hby d7_41) rfl rfl ?_
                              refine Run.x_iload (q := 44) X50 hx (hb hby d7_42) rfl rfl ?_
                              refine Run.x_iconst (q := 45) X50 hx (hb hby d7_44) (z := (4 : Int32)) rfl rfl ?_
                              by_cases hc45''' : (y3 &&& (15 : Int32)) < (4 : Int32)
                              · skip
                                refine Run.x_icmpNo (q := 48) X50 hx (hb hby d7_45) (tlt hc45''').2.1 rfl ?_
                                refine Run.x_iloadN (q := 49) X50 hx (hb hby d7_48) rfl rfl ?_
                                refine Run.x_aloadN (q := 50) X50 hx (hb hby d7_49) rfl rfl rfl ?_
                                refine Run.alen X50 hx hZ e50 A_seg (z := ll) hln (hb hby d7_50) ?_
                                show Run p e below s _ _ _ (T50.setTop (mkF m 51 #[.val (.ref this), .val (.ref seg), .val (.int (452 : Int32)), .val (.int y3), .val (.int (y3 &&& (15 : Int32)))] [(.int ll), (.int (452 : Int32))]))
                                by_cases hc51''' : ll < (452 : Int32)
                                · skip
                                  refine Run.x_icmpNo (q := 54) X50 hx (hb hby d7_51) (tlt hc51''').2.2.2 rfl ?_
                                  refine Run.x_iconst (q := 55) X50 hx (hb hby d7_54) (z := (0 : Int32)) rfl rfl ?_
                                  replace E_this := ((E_this.wr W32).wr W48).wr W50
                                  replace F_this_quantisation := F_this_quantisation.other W50 (Or.inl ne_this_qa)
                                  refine Run.retN X50 hx hlk e50 (t := .boolean) hret (by simp) (z' := (0 : Int32)) (by decide) (hb hby d7_55) (by decide) (by decide) ?_
                                  have kk : (0 : Int32).toInt = 0 ∧ (129 : Int32).toInt = 129 ∧ (258 : Int32).toInt = 258 ∧ (323 : Int32).toInt = 323 ∧ (452 : Int32).toInt = 452 ∧ (4 : Int32).toInt = 4 := by decide
                                  have hgt : ¬ (452 : Int) ≤ ll.toInt := by have q := hc51'''; rw [lt32] at q; omega
                                  have hne3 : ¬ (323 : Int) = ll.toInt := by have q := hc5'''; rw [lt32] at q; omega
                                  have hne2 : ¬ (258 : Int) = ll.toInt := by have q := hc5''; rw [lt32] at q; omega
                                  have hne1 : ¬ (129 : Int) = ll.toInt := by have q := hc5'; rw [lt32] at q; omega
                                  have hne0 : ¬ (0 : Int) = ll.toInt := by have q := hc5; rw [lt32] at q; omega
                                  exact PureK_mk ((own_b0 (own_rd_bk hne0 (by rw [hs0]; rfl : (0 : Int) + 1 + own_sz y0 = 129) (own_rd_bk hne1 (by rw [hs1]; rfl : (129 : Int) + 1 + own_sz y1 = 258) (own_rd_bk hne2 (by rw [hs2]; rfl : (258 : Int) + 1 + own_sz y2 = 323) (own_rd_no2 hne3 (by rw [hs3]; rfl : (323 : Int) + 1 + own_sz y3 = 452) hgt))))).symm) N50
                                · skip
                                  refine Run.x_icmpYes (q := 56) X50 hx (hb hby d7_51) (flt hc51''').2.2.2 (by decide) (by decide) ?_
                                  refine Run.x_aloadN (q := 57) X50 hx (hb hby d7_56) rfl rfl rfl ?_
                                  replace F_this_quantisation := F_this_quantisation.other W50 (Or.inl ne_this_qa)
                                  obtain ⟨T53, X53, e53, st53⟩ := getF X50 hx hZ hown (host := "") (Or.inl (hw _ (List.mem_of_getElem? (i := 22) rfl))) Via.refl e50 F_this_quantisation (g := (mkF m 57 #[.val (.ref this), .val (.ref seg), .val (.int (452 : Int32)), .val (.int y3), .val (.int (y3 &&& (15 : Int32)))] [(.ref this)])) rfl rfl (hb hby d7_57)
                                  refine Run.st st53 ?_
                                  show Run p e below s _ _ _ (T53.setTop (mkF m 60 #[.val (.ref this), .val (.ref seg), .val (.int (452 : Int32)), .val (.int y3), .val (.int (y3 &&& (15 : Int32)))] [(.ref qa)]))
                                  refine Run.x_iload (q := 62) X53 hx (hb hby d7_60) rfl rfl ?_
                                  refine Run.x_iconst (q := 63) X53 hx (hb hby d7_62) (z := (1 : Int32)) rfl rfl ?_
                                  have hj63 := own_n15 y3
                                  obtain ⟨iq3, hiq3⟩ : ∃ i : Nat, (y3 &&& (15 : Int32)).toInt = i := ⟨(y3 &&& (15 : Int32)).toInt.toNat, by omega⟩
                                  have hib3 : iq3 < (((([(.int (0 : Int32)), (.int (0 : Int32)), (.int (0 : Int32)), (.int (0 : Int32))].set iq0 (Value.int (1 : Int32))).set iq1 (Value.int (1 : Int32))).set iq2 (Value.int (1 : Int32))) : List Value).length := by
                                    have q4 := hc45'''; rw [lt32] at q4; have k4 : (4 : Int32).toInt = 4 := rfl; have hh := hiq3; simp only [List.length_set, List.length_cons, List.length_nil]; omega
                                  refine Run.stZ X53 hx hZ e53 A_qa (i := iq3) hiq3 hib3 (z' := (1 : Int32)) (by decide) (hb hby d7_63) ?_
                                  intro T54 h54 X54 e54 W54 A54
                                  replace A_qa : Ars Z h54 qa .boolean (((([(.int (0 : Int32)), (.int (0 : Int32)), (.int (0 : Int32)), (.int (0 : Int32))].set iq0 (Value.int (1 : Int32))).set iq1 (Value.int (1 : Int32))).set iq2 (Value.int (1 : Int32))).set iq3 (Value.int (1 : Int32))) := A54
                                  have N54 := Fr.snoc X54 N50 g_qa
                                  have Z54 : n0 ≤ h54.size := Nat.le_trans Z50 (Nat.le_of_eq W54.size.symm)
                                  show Run p e below s _ _ _ (T54.setTop (mkF m 64 #[.val (.ref this), .val (.ref seg), .val (.int (452 : Int32)), .val (.int y3), .val (.int (y3 &&& (15 : Int32)))] []))
                                  refine Run.x_goto (q := 2) X54 hx (hb hby d7_64) (by decide) (by decide) ?_
                                  refine Run.x_iloadN (q := 3) X54 hx (hb hby d7_2) rfl rfl ?_
                                  refine Run.x_aloadN (q := 4) X54 hx (hb hby d7_3) rfl rfl rfl ?_
                                  replace A_seg := A_seg.other W54 ne_seg_qa
                                  refine Run.alen X54 hx hZ e54 A_seg (z := ll) hln (hb hby d7_4) ?_
                                  show Run p e below s _ _ _ (T54.setTop (mkF m 5 #[.val (.ref this), .val (.ref seg), .val (.int (452 : Int32)), .val (.int y3), .val (.int (y3 &&& (15 : Int32)))] [(.int ll), (.int (452 : Int32))]))
                                  have hend : ¬ (452 : Int32) < ll := by rw [lt32]; have k : (452 : Int32).toInt = 452 := rfl; omega
                                  refine Run.x_icmpYes (q := 67) X54 hx (hb hby d7_5) (flt hend).2.1 (by decide) (by decide) ?_
                                  refine Run.x_iconst (q := 68) X54 hx (hb hby d7_67) (z := (1 : Int32)) rfl rfl ?_
                                  replace E_this := (((E_this.wr W32).wr W48).wr W50).wr W54
                                  replace F_this_quantisation := F_this_quantisation.other W54 (Or.inl ne_this_qa)
                                  refine Run.retN X54 hx hlk e54 (t := .boolean) hret (by simp) (z' := (1 : Int32)) (by decide) (hb hby d7_68) (by decide) (by decide) ?_
                                  have kk : (0 : Int32).toInt = 0 ∧ (129 : Int32).toInt = 129 ∧ (258 : Int32).toInt = 258 ∧ (323 : Int32).toInt = 323 ∧ (452 : Int32).toInt = 452 ∧ (4 : Int32).toInt = 4 := by decide
                                  have hle3 : (452 : Int) ≤ ll.toInt := by have q := hc51'''; rw [lt32] at q; omega
                                  have hle2 : (323 : Int) ≤ ll.toInt := by have q := hc51''; rw [lt32] at q; omega
                                  have hle1 : (258 : Int) ≤ ll.toInt := by have q := hc51'; rw [lt32] at q; omega
                                  have hle0 : (129 : Int) ≤ ll.toInt := by have q := hc51; rw [lt32] at q; omega
                                  exact PureK_mk ((own_b1 (own_rd_step ((own_n4 y0).mp hc45) (by rw [hs0]; rfl : (0 : Int) + 1 + own_sz y0 = 129) hle0 (own_rd_step ((own_n4 y1).mp hc45') (by rw [hs1]; rfl : (129 : Int) + 1 + own_sz y1 = 258) hle1 (own_rd_step ((own_n4 y2).mp hc45'') (by rw [hs2]; rfl : (258 : Int) + 1 + own_sz y2 = 323) hle2 (own_rd_step ((own_n4 y3).mp hc45''') (by rw [hs3]; rfl : (323 : Int) + 1 + own_sz y3 = 452) hle3 own_rd0))))).symm) N54
                              · skip
                                refine Run.x_icmpYes (q := 54) X50 hx (hb hby d7_45) (flt hc45''').2.1 (by decide) (by decide) ?_
                                refine Run.x_iconst (q := 55) X50 hx (hb hby d7_54) (z := (0 : Int32)) rfl rfl ?_
                                replace E_this := ((E_this.wr W32).wr W48).wr W50
                                replace F_this_quantisation := F_this_quantisation.other W50 (Or.inl ne_this_qa)
                                refine Run.retN X50 hx hlk e50 (t := .boolean) hret (by simp) (z' := (0 : Int32)) (by decide) (hb hby d7_55) (by decide) (by decide) ?_
                                have kk : (0 : Int32).toInt = 0 ∧ (129 : Int32).toInt = 129 ∧ (258 : Int32).toInt = 258 ∧ (323 : Int32).toInt = 323 ∧ (452 : Int32).toInt = 452 ∧ (4 : Int32).toInt = 4 := by decide
                                have hne3 : ¬ (323 : Int) = ll.toInt := by have q := hc5'''; rw [lt32] at q; omega
                                have hne2 : ¬ (258 : Int) = ll.toInt := by have q := hc5''; rw [lt32] at q; omega
                                have hne1 : ¬ (129 : Int) = ll.toInt := by have q := hc5'; rw [lt32] at q; omega
                                have hne0 : ¬ (0 : Int) = ll.toInt := by have q := hc5; rw [lt32] at q; omega
                                exact PureK_mk ((own_b0 (own_rd_bk hne0 (by rw [hs0]; rfl : (0 : Int) + 1 + own_sz y0 = 129) (own_rd_bk hne1 (by rw [hs1]; rfl : (129 : Int) + 1 + own_sz y1 = 258) (own_rd_bk hne2 (by rw [hs2]; rfl : (258 : Int) + 1 + own_sz y2 = 323) (own_rd_no1 hne3 (mt (own_n4 y3).mpr hc45''')))))).symm) N50
                          · skip
                            refine Run.x_icmpYes (q := 67) X50 hx (hb hby d7_5) (flt hc5''').2.1 (by decide) (by decide) ?_
                            refine Run.x_iconst (q := 68) X50 hx (hb hby d7_67) (z := (1 : Int32)) rfl rfl ?_
                            replace E_this := ((E_this.wr W32).wr W48).wr W50
                            replace F_this_quantisation := F_this_quantisation.other W50 (Or.inl ne_this_qa)
                            refine Run.retN X50 hx hlk e50 (t := .boolean) hret (by simp) (z' := (1 : Int32)) (by decide) (hb hby d7_68) (by decide) (by decide) ?_
                            have kk : (0 : Int32).toInt = 0 ∧ (129 : Int32).toInt = 129 ∧ (258 : Int32).toInt = 258 ∧ (323 : Int32).toInt = 323 ∧ (4 : Int32).toInt = 4 := by decide
                            have heq : (323 : Int) = ll.toInt := by have q := hc5'''; rw [lt32] at q; have q2 := hc51''; rw [lt32] at q2; omega
                            have hle2 : (323 : Int) ≤ ll.toInt := by have q := hc51''; rw [lt32] at q; omega
                            have hle1 : (258 : Int) ≤ ll.toInt := by have q := hc51'; rw [lt32] at q; omega
                            have hle0 : (129 : Int) ≤ ll.toInt := by have q := hc51; rw [lt32] at q; omega
                            exact PureK_mk ((own_b1 (own_rd_step ((own_n4 y0).mp hc45) (by rw [hs0]; rfl : (0 : Int) + 1 + own_sz y0 = 129) hle0 (own_rd_step ((own_n4 y1).mp hc45') (by rw [hs1]; rfl : (129 : Int) + 1 + own_sz y1 = 258) hle1 (own_rd_step ((own_n4 y2).mp hc45'') (by rw [hs2]; rfl : (258 : Int) + 1 + own_sz y2 = 323) hle2 (own_rd_eq heq))))).symm) N50
                      · skip
                        refine Run.x_icmpYes (q := 54) X48 hx (hb hby d7_45) (flt hc45'').2.1 (by decide) (by decide) ?_
                        refine Run.x_iconst (q := 55) X48 hx (hb hby d7_54) (z := (0 : Int32)) rfl rfl ?_
                        replace E_this := (E_this.wr W32).wr W48
                        replace F_this_quantisation := F_this_quantisation.other W48 (Or.inl ne_this_qa)
                        refine Run.retN X48 hx hlk e48 (t := .boolean) hret (by simp) (z' := (0 : Int32)) (by decide) (hb hby d7_55) (by decide) (by decide) ?_
                        have kk : (0 : Int32).toInt = 0 ∧ (129 : Int32).toInt = 129 ∧ (258 : Int32).toInt = 258 ∧ (323 : Int32).toInt = 323 ∧ (4 : Int32).toInt = 4 := by decide
                        have hne2 : ¬ (258 : Int) = ll.toInt := by have q := hc5''; rw [lt32] at q; omega
                        have hne1 : ¬ (129 : Int) = ll.toInt := by have q := hc5'; rw [lt32] at q; omega
                        have hne0 : ¬ (0 : Int) = ll.toInt := by have q := hc5; rw [lt32] at q; omega
                        exact PureK_mk ((own_b0 (own_rd_bk hne0 (by rw [hs0]; rfl : (0 : Int) + 1 + own_sz y0 = 129) (own_rd_bk hne1 (by rw [hs1]; rfl : (129 : Int) + 1 + own_sz y1 = 258) (own_rd_no1 hne2 (mt (own_n4 y2).mpr hc45''))))).symm) N48
                    · have hs2 := own_s16' hk2
                      refine Run.x_ifYes (q := 37) X48 hx (hb hby d7_29) ((if0 _ _).trans (feq (mt (own_sh4 hy2.1 hy2.2).mp hk2)).2) (by decide) (by decide) ?_
                      refine Run.x_sipush (q := 40) X48 hx (hb hby d7_37) (z := (128 : Int32)) rfl rfl ?_
                      refine Run.x_iadd (q := 41) X48 hx (hb hby d7_40) (z := (387 : Int32)) (by decide) rfl ?_
                      refine Run.x_istoreN (q := 42) X48 hx #[.val (.ref this), .val (.ref seg), .val (.int (387 : Int32)), .val (.int y2), .val (.int (y2 &&& (15 : Int32)))] (hb hby d7_41) rfl rfl ?_
                      refine Run.x_iload (q := 44) X48 hx (hb hby d7_42) rfl rfl ?_
                      refine Run.x_iconst (q := 45) X48 hx (hb hby d7_44) (z := (4 : Int32)) rfl rfl ?_
                      by_cases hc45'' : (y2 &&& (15 : Int32)) < (4 : Int32)
                      · skip
                        refine Run.x_icmpNo (q := 48) X48 hx (hb hby d7_45) (tlt hc45'').2.1 rfl ?_
                        refine Run.x_iloadN (q := 49) X48 hx (hb hby d7_48) rfl rfl ?_
                        refine Run.x_aloadN (q := 50) X48 hx (hb hby d7_49) rfl rfl rfl ?_
                        refine Run.alen X48 hx hZ e48 A_seg (z := ll) hln (hb hby d7_50) ?_
                        show Run p e below s _ _ _ (T48.setTop (mkF m 51 #[.val (.ref this), .val (.ref seg), .val (.int (387 : Int32)), .val (.int y2), .val (.int (y2 &&& (15 : Int32)))] [(.int ll), (.int (387 : Int32))]))
                        by_cases hc51'' : ll < (387 : Int32)
                        · skip
                          refine Run.x_icmpNo (q := 54) X48 hx (hb hby d7_51) (tlt hc51'').2.2.2 rfl ?_
                          refine Run.x_iconst (q := 55) X48 hx (hb hby d7_54) (z := (0 : Int32)) rfl rfl ?_
                          replace E_this := (E_this.wr W32).wr W48
                          replace F_this_quantisation := F_this_quantisation.other W48 (Or.inl ne_this_qa)
                          refine Run.retN X48 hx hlk e48 (t := .boolean) hret (by simp) (z' := (0 : Int32)) (by decide) (hb hby d7_55) (by decide) (by decide) ?_
                          have kk : (0 : Int32).toInt = 0 ∧ (129 : Int32).toInt = 129 ∧ (258 : Int32).toInt = 258 ∧ (387 : Int32).toInt = 387 ∧ (4 : Int32).toInt = 4 := by decide
                          have hgt : ¬ (387 : Int) ≤ ll.toInt := by have q := hc51''; rw [lt32] at q; omega
                          have hne2 : ¬ (258 : Int) = ll.toInt := by have q := hc5''; rw [lt32] at q; omega
                          have hne1 : ¬ (129 : Int) = ll.toInt := by have q := hc5'; rw [lt32] at q; omega
                          have hne0 : ¬ (0 : Int) = ll.toInt := by have q := hc5; rw [lt32] at q; omega
                          exact PureK_mk ((own_b0 (own_rd_bk hne0 (by rw [hs0]; rfl : (0 : Int) + 1 + own_sz y0 = 129) (own_rd_bk hne1 (by rw [hs1]; rfl : (129 : Int) + 1 + own_sz y1 = 258) (own_rd_no2 hne2 (by rw [hs2]; rfl : (258 : Int) + 1 + own_sz y2 = 387) hgt)))).symm) N48
                        · skip
                          refine Run.x_icmpYes (q := 56) X48 hx (hb hby d7_51) (flt hc51'').2.2.2 (by decide) (by decide) ?_
                          refine Run.x_aloadN (q := 57) X48 hx (hb hby d7_56) rfl rfl rfl ?_
                          replace F_this_quantisation := F_this_quantisation.other W48 (Or.inl ne_this_qa)
                          obtain ⟨T55, X55, e55, st55⟩ := getF X48 hx hZ hown (host := "") (Or.inl (hw _ (List.mem_of_getElem? (i := 22) rfl))) Via.refl e48 F_this_quantisation (g := (mkF m 57 #[.val (.ref this), .val (.ref seg), .val (.int (387 : Int32)), .val (.int y2), .val (.int (y2 &&& (15 : Int32)))] [(.ref this)])) rfl rfl (hb hby d7_57)
                          refine Run.st st55 ?_
                          show Run p e below s _ _ _ (T55.setTop (mkF m 60 #[.val (.ref this), .val (.ref seg), .val (.int (387 : Int32)), .val (.int y2), .val (.int (y2 &&& (15 : Int32)))] [(.ref qa)]))
                          refine Run.x_iload (q := 62) X55 hx (hb hby d7_60) rfl rfl ?_
                          refine Run.x_iconst (q := 63) X55 hx (hb hby d7_62) (z := (1 : Int32)) rfl rfl ?_
                          have hj63 := own_n15 y2
                          obtain ⟨iq2, hiq2⟩ : ∃ i : Nat, (y2 &&& (15 : Int32)).toInt = i := ⟨(y2 &&& (15 : Int32)).toInt.toNat, by omega⟩
                          have hib2 : iq2 < ((([(.int (0 : Int32)), (.int (0 : Int32)), (.int (0 : Int32)), (.int (0 : Int32))].set iq0 (Value.int (1 : Int32))).set iq1 (Value.int (1 : Int32))) : List Value).length := by
                            have q4 := hc45''; rw [lt32] at q4; have k4 : (4 : Int32).toInt = 4 := rfl; have hh := hiq2; simp only [List.length_set, List.length_cons, List.length_nil]; omega
                          refine Run.stZ X55 hx hZ e55 A_qa (i := iq2) hiq2 hib2 (z' := (1 : Int32)) (by decide) (hb hby d7_63) ?_
                          intro T56 h56 X56 e56 W56 A56
                          replace A_qa : Ars Z h56 qa .boolean ((([(.int (0 : Int32)), (.int (0 : Int32)), (.int (0 : Int32)), (.int (0 : Int32))].set iq0 (Value.int (1 : Int32))).set iq1 (Value.int (1 : Int32))).set iq2 (Value.int (1 : Int32))) := A56
                          have N56 := Fr.snoc X56 N48 g_qa
                          have Z56 : n0 ≤ h56.size := Nat.le_trans Z48 (Nat.le_of_eq W56.size.symm)
                          show Run p e below s _ _ _ (T56.setTop (mkF m 64 #[.val (.ref this), .val (.ref seg), .val (.int (387 : Int32)), .val (.int y2), .val (.int (y2 &&& (15 : Int32)))] []))
                          refine Run.x_goto (q := 2) X56 hx (hb hby d7_64) (by decide) (by decide) ?_
                          refine Run.x_iloadN (q := 3) X56 hx (hb hby d7_2) rfl rfl ?_
                          refine Run.x_aloadN (q := 4) X56 hx (hb hby d7_3) rfl rfl rfl ?_
                          replace A_seg := A_seg.other W56 ne_seg_qa
                          refine Run.alen X56 hx hZ e56 A_seg (z := ll) hln (hb hby d7_4) ?_
                          show Run p e below s _ _ _ (T56.setTop (mkF m 5 #[.val (.ref this), .val (.ref seg), .val (.int (387 : Int32)), .val (.int y2), .val (.int (y2 &&& (15 : Int32)))] [(.int ll), (.int (387 : Int32))]))
                          by_cases hc5''' : (387 : Int32) < ll
                          · skip
                            refine Run.x_icmpNo (q := 8) X56 hx (hb hby d7_5) (tlt hc5''').2.1 rfl ?_
                            refine Run.x_aloadN (q := 9) X56 hx (hb hby d7_8) rfl rfl rfl ?_
                            refine Run.x_iloadN (q := 10) X56 hx (hb hby d7_9) rfl rfl ?_
                            refine Run.x_iinc (q := 13) X56 hx #[.val (.ref this), .val (.ref seg), .val (.int (388 : Int32)), .val (.int y2), .val (.int (y2 &&& (15 : Int32)))] (hb hby d7_10) rfl (z := (388 : Int32)) (by decide) rfl rfl ?_
                            have hlt3 : 387 < vs.length := by have q := hc5'''; rw [lt32] at q; have k : (387 : Int32).toInt = 387 := rfl; omega
                            have hel3 := hq3 387 (by rw [hs0, hs1, hs2]; rfl) hlt3
                            refine Run.ldB X56 hx hZ e56 A_seg (i := 387) (v := (.int y3.toInt8.toInt32)) (by decide) hel3 (hb hby d7_13) ?_
                            show Run p e below s _ _ _ (T56.setTop (mkF m 14 #[.val (.ref this), .val (.ref seg), .val (.int (388 : Int32)), .val (.int y2), .val (.int (y2 &&& (15 : Int32)))] [(.int y3.toInt8.toInt32)]))
                            refine Run.x_sipush (q := 17) X56 hx (hb hby d7_14) (z := (255 : Int32)) rfl rfl ?_
                            refine Run.x_iand (q := 18) X56 hx (hb hby d7_17) rfl rfl ?_
                            rw [own_back hy3.1 hy3.2]
                            show Run p e below s _ _ _ (T56.setTop (mkF m 18 #[.val (.ref this), .val (.ref seg), .val (.int (388 : Int32)), .val (.int y2), .val (.int (y2 &&& (15 : Int32)))] [(.int y3)]))
                            refine Run.x_istoreN (q := 19) X56 hx #[.val (.ref this), .val (.ref seg), .val (.int (388 : Int32)), .val (.int y3), .val (.int (y2 &&& (15 : Int32)))] (hb hby d7_18) rfl rfl ?_
                            refine Run.x_iloadN (q := 20) X56 hx (hb hby d7_19) rfl rfl ?_
                            refine Run.x_bipush (q := 22) X56 hx (hb hby d7_20) (z := (15 : Int32)) rfl rfl ?_
                            refine Run.x_iand (q := 23) X56 hx (hb hby d7_22) rfl rfl ?_
                            refine Run.x_istore (q := 25) X56 hx #[.val (.ref this), .val (.ref seg), .val (.int (388 : Int32)), .val (.int y3), .val (.int (y3 &&& (15 : Int32)))] (hb hby d7_23) rfl rfl ?_
                            refine Run.x_iloadN (q := 26) X56 hx (hb hby d7_25) rfl rfl ?_
                            refine Run.x_iloadN (q := 27) X56 hx (hb hby d7_26) rfl rfl ?_
                            refine Run.x_iconst (q := 28) X56 hx (hb hby d7_27) (z := (4 : Int32)) rfl rfl ?_
                            refine Run.x_ishr (q := 29) X56 hx (hb hby d7_28) rfl rfl ?_
                            by_cases hk3 : y3 < 16
                            · have hs3 := own_s16 hk3
                              refine Run.x_ifNo (q := 32) X56 hx (hb hby d7_29) ((if0 _ _).trans (teq ((own_sh4 hy3.1 hy3.2).mpr hk3)).2) rfl ?_
                              refine Run.x_bipush (q := 34) X56 hx (hb hby d7_32) (z := (64 : Int32)) rfl rfl ?_
                              refine Run.x_goto (q := 40) X56 hx (hb hby d7_34) (by decide) (by decide) ?_
                              refine Run.x_iadd (q := 41) X56 hx (hb hby d7_40) (z := (452 : Int32)) (by decide) rfl ?_
                              refine Run.x_istoreN (q := 42) X56 hx #[.val (.ref this), .val (.ref seg), .val (.int (452 : Int32)), .val (.int y3), .val (.int (y3 &&& (15 : Int32)))] (hb hby d7_41) rfl rfl ?_
                              refine Run.x_iload (q := 44) X56 hx (hb hby d7_42) rfl rfl ?_
                              refine Run.x_iconst (q := 45) X56 hx (hb hby d7_44) (z := (4 : Int32)) rfl rfl ?_
                              by_cases hc45''' : (y3 &&& (15 : Int32)) < (4 : Int32)
                              · skip
                                refine Run.x_icmpNo (q := 48) X56 hx (hb hby d7_45) (tlt hc45''').2.1 rfl ?_
                                refine Run.x_iloadN (q := 49) X56 hx (hb hby d7_48) rfl rfl ?_
                                refine Run.x_aloadN (q := 50) X56 hx (hb hby d7_49) rfl rfl rfl ?_
                                refine Run.alen X56 hx hZ e56 A_seg (z := ll) hln (hb hby d7_50) ?_
                                show Run p e below s _ _ _ (T56.setTop (mkF m 51 #[.val (.ref this), .val (.ref seg), .val (.int (452 : Int32)), .val (.int y3), .val (.int (y3 &&& (15 : Int32)))] [(.int ll), (.int (452 : Int32))]))
                                by_cases hc51''' : ll < (452 : Int32)
                                · skip
                                  refine Run.x_icmpNo (q := 54) X56 hx (hb hby d7_51) (tlt hc51''').2.2.2 rfl ?_
                                  refine Run.x_iconst (q := 55) X56 hx (hb hby d7_54) (z := (0 : Int32)) rfl rfl ?_
                                  replace E_this := ((E_this.wr W32).wr W48).wr W56
                                  replace F_this_quantisation := F_this_quantisation.other W56 (Or.inl ne_this_qa)
                                  refine Run.retN X56 hx hlk e56 (t := .boolean) hret (by simp) (z' := (0 : Int32)) (by decide) (hb hby d7_55) (by decide) (by decide) ?_
                                  have kk : (0 : Int32).toInt = 0 ∧ (129 : Int32).toInt = 129 ∧ (258 : Int32).toInt = 258 ∧ (387 : Int32).toInt = 387 ∧ (452 : Int32).toInt = 452 ∧ (4 : Int32).toInt = 4 := by decide
                                  have hgt : ¬ (452 : Int) ≤ ll.toInt := by have q := hc51'''; rw [lt32] at q; omega
                                  have hne3 : ¬ (387 : Int) = ll.toInt := by have q := hc5'''; rw [lt32] at q; omega
                                  have hne2 : ¬ (258 : Int) = ll.toInt := by have q := hc5''; rw [lt32] at q; omega
                                  have hne1 : ¬ (129 : Int) = ll.toInt := by have q := hc5'; rw [lt32] at q; omega
                                  have hne0 : ¬ (0 : Int) = ll.toInt := by have q := hc5; rw [lt32] at q; omega
                                  exact PureK_mk ((own_b0 (own_rd_bk hne0 (by rw [hs0]; rfl : (0 : Int) + 1 + own_sz y0 = 129) (own_rd_bk hne1 (by rw [hs1]; rfl : (129 : Int) + 1 + own_sz y1 = 258) (own_rd_bk hne2 (by rw [hs2]; rfl : (258 : Int) + 1 + own_sz y2 = 387) (own_rd_no2 hne3 (by rw [hs3]; rfl : (387 : Int) + 1 + own_sz y3 = 452) hgt))))).symm) N56
                                · skip
                                  refine Run.x_icmpYes (q := 56) X56 hx (hb hby d7_51) (flt hc51''').2.2.2 (by decide) (by decide) ?_
                                  refine Run.x_aloadN (q := 57) X56 hx (hb hby d7_56) rfl rfl rfl ?_
                                  replace F_this_quantisation := F_this_quantisation.other W56 (Or.inl ne_this_qa)
                                  obtain ⟨T57, X57, e57, st57⟩ := getF X56 hx hZ hown (host := "") (Or.inl (hw _ (List.mem_of_getElem? (i := 22) rfl))) Via.refl e56 F_this_quantisation (g := (mkF m 57 #[.val (.ref this), .val (.ref seg), .val (.int (452 : Int32)), .val (.int y3), .val (.int (y3 &&& (15 : Int32)))] [(.ref this)])) rfl rfl (hb hby d7_57)
                                  refine Run.st st57 ?_
                                  show Run p e below s _ _ _ (T57.setTop (mkF m 60 #[.val (.ref this), .val (.ref seg), .val (.int (452 : Int32)), .val (.int y3), .val (.int (y3 &&& (15 : Int32)))] [(.ref qa)]))
                                  refine Run.x_iload (q := 62) X57 hx (hb hby d7_60) rfl rfl ?_
                                  refine Run.x_iconst (q := 63) X57 hx (hb hby d7_62) (z := (1 : Int32)) rfl rfl ?_
                                  have hj63 := own_n15 y3
                                  obtain ⟨iq3, hiq3⟩ : ∃ i : Nat, (y3 &&& (15 : Int32)).toInt = i := ⟨(y3 &&& (15 : Int32)).toInt.toNat, by omega⟩
                                  have hib3 : iq3 < (((([(.int (0 : Int32)), (.int (0 : Int32)), (.int (0 : Int32)), (.int (0 : Int32))].set iq0 (Value.int (1 : Int32))).set iq1 (Value.int (1 : Int32))).set iq2 (Value.int (1 : Int32))) : List Value).length := by
                                    have q4 := hc45'''; rw [lt32] at q4; have k4 : (4 : Int32).toInt = 4 := rfl; have hh := hiq3; simp only [List.length_set, List.length_cons, List.length_nil]; omega
                                  refine Run.stZ X57 hx hZ e57 A_qa (i := iq3) hiq3 hib3 (z' := (1 : Int32)) (by decide) (hb hby d7_63) ?_
                                  intro T58 h58 X58 e58 W58 A58
                                  replace A_qa : Ars Z h58 qa .boolean (((([(.int (0 : Int32)), (.int (0 : Int32)), (.int (0 : Int32)), (.int (0 : Int32))].set iq0 (Value.int (1 : Int32))).set iq1 (Value.int (1 : Int32))).set iq2 (Value.int (1 : Int32))).set iq3 (Value.int (1 : Int32))) := A58
                                  have N58 := Fr.snoc X58 N56 g_qa
                                  have Z58 : n0 ≤ h58.size := Nat.le_trans Z56 (Nat.le_of_eq W58.size.symm)
                                  show Run p e below s _ _ _ (T58.setTop (mkF m 64 #[.val (.ref this), .val (.ref seg), .val (.int (452 : Int32)), .val (.int y3), .val (.int (y3 &&& (15 : Int32)))] []))
                                  refine Run.x_goto (q := 2) X58 hx (hb hby d7_64) (by decide) (by decide) ?_
                                  refine Run.x_iloadN (q := 3) X58 hx (hb hby d7_2) rfl rfl ?_
                                  refine Run.x_aloadN (q := 4) X58 hx (hb hby d7_3) rfl rfl rfl ?_
                                  replace A_seg := A_seg.other W58 ne_seg_qa
                                  refine Run.alen X58 hx hZ e58 A_seg (z := ll) hln (hb hby d7_4) ?_
                                  show Run p e below s _ _ _ (T58.setTop (mkF m 5 #[.val (.ref this), .val (.ref seg), .val (.int (452 : Int32)), .val (.int y3), .val (.int (y3 &&& (15 : Int32)))] [(.int ll), (.int (452 : Int32))]))
                                  have hend : ¬ (452 : Int32) < ll := by rw [lt32]; have k : (452 : Int32).toInt = 452 := rfl; omega
                                  refine Run.x_icmpYes (q := 67) X58 hx (hb hby d7_5) (flt hend).2.1 (by decide) (by decide) ?_
                                  refine Run.x_iconst (q := 68) X58 hx (hb hby d7_67) (z := (1 : Int32)) rfl rfl ?_
                                  replace E_this := (((E_this.wr W32).wr W48).wr W56).wr W58
                                  replace F_this_quantisation := F_this_quantisation.other W58 (Or.inl ne_this_qa)
                                  refine Run.retN X58 hx hlk e58 (t := .boolean) hret (by simp) (z' := (1 : Int32)) (by decide) (hb hby d7_68) (by decide) (by decide) ?_
                                  have kk : (0 : Int32).toInt = 0 ∧ (129 : Int32).toInt = 129 ∧ (258 : Int32).toInt = 258 ∧ (387 : Int32).toInt = 387 ∧ (452 : Int32).toInt = 452 ∧ (4 : Int32).toInt = 4 := by decide
                                  have hle3 : (452 : Int) ≤ ll.toInt := by have q := hc51'''; rw [lt32] at q; omega
                                  have hle2 : (387 : Int) ≤ ll.toInt := by have q := hc51''; rw [lt32] at q; omega
                                  have hle1 : (258 : Int) ≤ ll.toInt := by have q := hc51'; rw [lt32] at q; omega
                                  have hle0 : (129 : Int) ≤ ll.toInt := by have q := hc51; rw [lt32] at q; omega
                                  exact PureK_mk ((own_b1 (own_rd_step ((own_n4 y0).mp hc45) (by rw [hs0]; rfl : (0 : Int) + 1 + own_sz y0 = 129) hle0 (own_rd_step ((own_n4 y1).mp hc45') (by rw [hs1]; rfl : (129 : Int) + 1 + own_sz y1 = 258) hle1 (own_rd_step ((own_n4 y2).mp hc45'') (by rw [hs2]; rfl : (258 : Int) + 1 + own_sz y2 = 387) hle2 (own_rd_step ((own_n4 y3).mp hc45''') (by rw [hs3]; rfl : (387 : Int) + 1 + own_sz y3 = 452) hle3 own_rd0))))).symm) N58
                              · skip
                                refine Run.x_icmpYes (q := 54) X56 hx (hb hby d7_45) (flt hc45''').2.1 (by decide) (by decide) ?_
                                refine Run.x_iconst (q := 55) X56 hx (hb hby d7_54) (z := (0 : Int32)) rfl rfl ?_
                                replace E_this := ((E_this.wr W32).wr W48).wr W56
                                replace F_this_quantisation := F_this_quantisation.other W56 (Or.inl ne_this_qa)
                                refine Run.retN X56 hx hlk e56 (t := .boolean) hret (by simp) (z' := (0 : Int32)) (by decide) (hb hby d7_55) (by decide) (by decide) ?_
                                have kk : (0 : Int32).toInt = 0 ∧ (129 : Int32).toInt = 129 ∧ (258 : Int32).toInt = 258 ∧ (387 : Int32).toInt = 387 ∧ (452 : Int32).toInt = 452 ∧ (4 : Int32).toInt = 4 := by decide
                                have hne3 : ¬ (387 : Int) = ll.toInt := by have q := hc5'''; rw [lt32] at q; omega
                                have hne2 : ¬ (258 : Int) = ll.toInt := by have q := hc5''; rw [lt32] at q; omega
                                have hne1 : ¬ (129 : Int) = ll.toInt := by have q := hc5'; rw [lt32] at q; omega
                                have hne0 : ¬ (0 : Int) = ll.toInt := by have q := hc5; rw [lt32] at q; omega
                                exact PureK_mk ((own_b0 (own_rd_bk hne0 (by rw [hs0]; rfl : (0 : Int) + 1 + own_sz y0 = 129) (own_rd_bk hne1 (by rw [hs1]; rfl : (129 : Int) + 1 + own_sz y1 = 258) (own_rd_bk hne2 (by rw [hs2]; rfl : (258 : Int) + 1 + own_sz y2 = 387) (own_rd_no1 hne3 (mt (own_n4 y3).mpr hc45''')))))).symm) N56
                            · have hs3 := own_s16' hk3
                              refine Run.x_ifYes (q := 37) X56 hx (hb hby d7_29) ((if0 _ _).trans (feq (mt (own_sh4 hy3.1 hy3.2).mp hk3)).2) (by decide) (by decide) ?_
                              refine Run.x_sipush (q := 40) X56 hx (hb hby d7_37) (z := (128 : Int32)) rfl rfl ?_
                              refine Run.x_iadd (q := 41) X56 hx (hb hby d7_40) (z := (516 : Int32)) (by decide) rfl ?_
                              refine Run.x_istoreN (q := 42) X56 hx #[.val (.ref this), .val (.ref seg), .val (.int (516 : Int32)), .val (.int y3), .val (.int (y3 &&& (15 : Int32)))] (hb hby d7_41) rfl rfl ?_
                              refine Run.x_iload (q := 44) X56 hx (hb hby d7_42) rfl rfl ?_
                              refine Run.x_iconst (q := 45) X56 hx (hb hby d7_44) (z := (4 : Int32)) rfl rfl ?_
                              by_cases hc45''' : (y3 &&& (15 : Int32)) < (4 : Int32)
                              · skip
                                refine Run.x_icmpNo (q := 48) X56 hx (hb hby d7_45) (tlt hc45''').2.1 rfl ?_
                                refine Run.x_iloadN (q := 49) X56 hx (hb hby d7_48) rfl rfl ?_
                                refine Run.x_aloadN (q := 50) X56 hx (hb hby d7_49) rfl rfl rfl ?_
                                refine Run.alen X56 hx hZ e56 A_seg (z := ll) hln (hb hby d7_50) ?_
                                show Run p e below s _ _ _ (T56.setTop (mkF m 51 #[.val (.ref this), .val (.ref seg), .val (.int (516 : Int32)), .val (.int y3), .val (.int (y3 &&& (15 : Int32)))] [(.int ll), (.int (516 : Int32))]))
                                by_cases hc51''' : ll < (516 : Int32)
                                · skip
                                  refine Run.x_icmpNo (q := 54) X56 hx (hb hby d7_51) (tlt hc51''').2.2.2 rfl ?_
                                  refine Run.x_iconst (q := 55) X56 hx (hb hby d7_54) (z := (0 : Int32)) rfl rfl ?_
                                  replace E_this := ((E_this.wr W32).wr W48).wr W56
                                  replace F_this_quantisation := F_this_quantisation.other W56 (Or.inl ne_this_qa)
                                  refine Run.retN X56 hx hlk e56 (t := .boolean) hret (by simp) (z' := (0 : Int32)) (by decide) (hb hby d7_55) (by decide) (by decide) ?_
                                  have kk : (0 : Int32).toInt = 0 ∧ (129 : Int32).toInt = 129 ∧ (258 : Int32).toInt = 258 ∧ (387 : Int32).toInt = 387 ∧ (516 : Int32).toInt = 516 ∧ (4 : Int32).toInt = 4 := by decide
                                  have hgt : ¬ (516 : Int) ≤ ll.toInt := by have q := hc51'''; rw [lt32] at q; omega
                                  have hne3 : ¬ (387 : Int) = ll.toInt := by have q := hc5'''; rw [lt32] at q; omega
                                  have hne2 : ¬ (258 : Int) = ll.toInt := by have q := hc5''; rw [lt32] at q; omega
                                  have hne1 : ¬ (129 : Int) = ll.toInt := by have q := hc5'; rw [lt32] at q; omega
                                  have hne0 : ¬ (0 : Int) = ll.toInt := by have q := hc5; rw [lt32] at q; omega
                                  exact PureK_mk ((own_b0 (own_rd_bk hne0 (by rw [hs0]; rfl : (0 : Int) + 1 + own_sz y0 = 129) (own_rd_bk hne1 (by rw [hs1]; rfl : (129 : Int) + 1 + own_sz y1 = 258) (own_rd_bk hne2 (by rw [hs2]; rfl : (258 : Int) + 1 + own_sz y2 = 387) (own_rd_no2 hne3 (by rw [hs3]; rfl : (387 : Int) + 1 + own_sz y3 = 516) hgt))))).symm) N56
                                · skip
                                  refine Run.x_icmpYes (q := 56) X56 hx (hb hby d7_51) (flt hc51''').2.2.2 (by decide) (by decide) ?_
                                  refine Run.x_aloadN (q := 57) X56 hx (hb hby d7_56) rfl rfl rfl ?_
                                  replace F_this_quantisation := F_this_quantisation.other W56 (Or.inl ne_this_qa)
                                  obtain ⟨T59, X59, e59, st59⟩ := getF X56 hx hZ hown (host := "") (Or.inl (hw _ (List.mem_of_getElem? (i := 22) rfl))) Via.refl e56 F_this_quantisation (g := (mkF m 57 #[.val (.ref this), .val (.ref seg), .val (.int (516 : Int32)), .val (.int y3), .val (.int (y3 &&& (15 : Int32)))] [(.ref this)])) rfl rfl (hb hby d7_57)
                                  refine Run.st st59 ?_
                                  show Run p e below s _ _ _ (T59.setTop (mkF m 60 #[.val (.ref this), .val (.ref seg), .val (.int (516 : Int32)), .val (.int y3), .val (.int (y3 &&& (15 : Int32)))] [(.ref qa)]))
                                  refine Run.x_iload (q := 62) X59 hx (hb hby d7_60) rfl rfl ?_
                                  refine Run.x_iconst (q := 63) X59 hx (hb hby d7_62) (z := (1 : Int32)) rfl rfl ?_
                                  have hj63 := own_n15 y3
                                  obtain ⟨iq3, hiq3⟩ : ∃ i : Nat, (y3 &&& (15 : Int32)).toInt = i := ⟨(y3 &&& (15 : Int32)).toInt.toNat, by omega⟩
                                  have hib3 : iq3 < (((([(.int (0 : Int32)), (.int (0 : Int32)), (.int (0 : Int32)), (.int (0 : Int32))].set iq0 (Value.int (1 : Int32))).set iq1 (Value.int (1 : Int32))).set iq2 (Value.int (1 : Int32))) : List Value).length := by
                                    have q4 := hc45'''; rw [lt32] at q4; have k4 : (4 : Int32).toInt = 4 := rfl; have hh := hiq3; simp only [List.length_set, List.length_cons, List.length_nil]; omega
                                  refine Run.stZ X59 hx hZ e59 A_qa (i := iq3) hiq3 hib3 (z' := (1 : Int32)) (by decide) (hb hby d7_63) ?_
                                  intro T60 h60 X60 e60 W60 A60
                                  replace A_qa : Ars Z h60 qa .boolean (((([(.int (0 : Int32)), (.int (0 : Int32)), (.int (0 : Int32)), (.int (0 : Int32))].set iq0 (Value.int (1 : Int32))).set iq1 (Value.int (1 : Int32))).set iq2 (Value.int (1 : Int32))).set iq3 (Value.int (1 : Int32))) := A60
                                  have N60 := Fr.snoc X60 N56 g_qa
                                  have Z60 : n0 ≤ h60.size := Nat.le_trans Z56 (Nat.le_of_eq W60.size.symm)
                                  show Run p e below s _ _ _ (T60.setTop (mkF m 64 #[.val (.ref this), .val (.ref seg), .val (.int (516 : Int32)), .val (.int y3), .val (.int (y3 &&& (15 : Int32)))] []))
                                  refine Run.x_goto (q := 2) X60 hx (hb hby d7_64) (by decide) (by decide) ?_
                                  refine Run.x_iloadN (q := 3) X60 hx (hb hby d7_2) rfl rfl ?_
                                  refine Run.x_aloadN (q := 4) X60 hx (hb hby d7_3) rfl rfl rfl ?_
                                  replace A_seg := A_seg.other W60 ne_seg_qa
                                  refine Run.alen X60 hx hZ e60 A_seg (z := ll) hln (hb hby d7_4) ?_
                                  show Run p e below s _ _ _ (T60.setTop (mkF m 5 #[.val (.ref this), .val (.ref seg), .val (.int (516 : Int32)), .val (.int y3), .val (.int (y3 &&& (15 : Int32)))] [(.int ll), (.int (516 : Int32))]))
                                  have hend : ¬ (516 : Int32) < ll := by rw [lt32]; have k : (516 : Int32).toInt = 516 := rfl; omega
                                  refine Run.x_icmpYes (q := 67) X60 hx (hb hby d7_5) (flt hend).2.1 (by decide) (by decide) ?_
                                  refine Run.x_iconst (q := 68) X60 hx (hb hby d7_67) (z := (1 : Int32)) rfl rfl ?_
                                  replace E_this := (((E_this.wr W32).wr W48).wr W56).wr W60
                                  replace F_this_quantisation := F_this_quantisation.other W60 (Or.inl ne_this_qa)
                                  refine Run.retN X60 hx hlk e60 (t := .boolean) hret (by simp) (z' := (1 : Int32)) (by decide) (hb hby d7_68) (by decide) (by decide) ?_
                                  have kk : (0 : Int32).toInt = 0 ∧ (129 : Int32).toInt = 129 ∧ (258 : Int32).toInt = 258 ∧ (387 : Int32).toInt = 387 ∧ (516 : Int32).toInt = 516 ∧ (4 : Int32).toInt = 4 := by decide
                                  have hle3 : (516 : Int) ≤ ll.toInt := by have q := hc51'''; rw [lt32] at q; omega
                                  have hle2 : (387 : Int) ≤ ll.toInt := by have q := hc51''; rw [lt32] at q; omega
                                  have hle1 : (258 : Int) ≤ ll.toInt := by have q := hc51'; rw [lt32] at q; omega
                                  have hle0 : (129 : Int) ≤ ll.toInt := by have q := hc51; rw [lt32] at q; omega
                                  exact PureK_mk ((own_b1 (own_rd_step ((own_n4 y0).mp hc45) (by rw [hs0]; rfl : (0 : Int) + 1 + own_sz y0 = 129) hle0 (own_rd_step ((own_n4 y1).mp hc45') (by rw [hs1]; rfl : (129 : Int) + 1 + own_sz y1 = 258) hle1 (own_rd_step ((own_n4 y2).mp hc45'') (by rw [hs2]; rfl : (258 : Int) + 1 + own_sz y2 = 387) hle2 (own_rd_step ((own_n4 y3).mp hc45''') (by rw [hs3]; rfl : (387 : Int) + 1 + own_sz y3 = 516) hle3 own_rd0))))).symm) N60
                              · skip
                                refine Run.x_icmpYes (q := 54) X56 hx (hb hby d7_45) (flt hc45''').2.1 (by decide) (by decide) ?_
                                refine Run.x_iconst (q := 55) X56 hx (hb hby d7_54) (z := (0 : Int32)) rfl rfl ?_
                                replace E_this := ((E_this.wr W32).wr W48).wr W56
                                replace F_this_quantisation := F_this_quantisation.other W56 (Or.inl ne_this_qa)
                                refine Run.retN X56 hx hlk e56 (t := .boolean) hret (by simp) (z' := (0 : Int32)) (by decide) (hb hby d7_55) (by decide) (by decide) ?_
                                have kk : (0 : Int32).toInt = 0 ∧ (129 : Int32).toInt = 129 ∧ (258 : Int32).toInt = 258 ∧ (387 : Int32).toInt = 387 ∧ (516 : Int32).toInt = 516 ∧ (4 : Int32).toInt = 4 := by decide
                                have hne3 : ¬ (387 : Int) = ll.toInt := by have q := hc5'''; rw [lt32] at q; omega
                                have hne2 : ¬ (258 : Int) = ll.toInt := by have q := hc5''; rw [lt32] at q; omega
                                have hne1 : ¬ (129 : Int) = ll.toInt := by have q := hc5'; rw [lt32] at q; omega
                                have hne0 : ¬ (0 : Int) = ll.toInt := by have q := hc5; rw [lt32] at q; omega
                                exact PureK_mk ((own_b0 (own_rd_bk hne0 (by rw [hs0]; rfl : (0 : Int) + 1 + own_sz y0 = 129) (own_rd_bk hne1 (by rw [hs1]; rfl : (129 : Int) + 1 + own_sz y1 = 258) (own_rd_bk hne2 (by rw [hs2]; rfl : (258 : Int) + 1 + own_sz y2 = 387) (own_rd_no1 hne3 (mt (own_n4 y3).mpr hc45''')))))).symm) N56
                          · skip
                            refine Run.x_icmpYes (q := 67) X56 hx (hb hby d7_5) (flt hc5''').2.1 (by decide) (by decide) ?_
                            refine Run.x_iconst (q := 68) X56 hx (hb hby d7_67) (z := (1 : Int32)) rfl rfl ?_
                            replace E_this := ((E_this.wr W32).wr W48).wr W56
                            replace F_this_quantisation := F_this_quantisation.other W56 (Or.inl ne_this_qa)
                            refine Run.retN X56 hx hlk e56 (t := .boolean) hret (by simp) (z' := (1 : Int32)) (by decide) (hb hby d7_68) (by decide) (by decide) ?_
                            have kk : (0 : Int32).toInt = 0 ∧ (129 : Int32).toInt = 129 ∧ (258 : Int32).toInt = 258 ∧ (387 : Int32).toInt = 387 ∧ (4 : Int32).toInt = 4 := by decide
                            have heq : (387 : Int) = ll.toInt := by have q := hc5'''; rw [lt32] at q; have q2 := hc51''; rw [lt32] at q2; omega
                            have hle2 : (387 : Int) ≤ ll.toInt := by have q := hc51''; rw [lt32] at q; omega
                            have hle1 : (258 : Int) ≤ ll.toInt := by have q := hc51'; rw [lt32] at q; omega
                            have hle0 : (129 : Int) ≤ ll.toInt := by have q := hc51; rw [lt32] at q; omega
                            exact PureK_mk ((own_b1 (own_rd_step ((own_n4 y0).mp hc45) (by rw [hs0]; rfl : (0 : Int) + 1 + own_sz y0 = 129) hle0 (own_rd_step ((own_n4 y1).mp hc45') (by rw [hs1]; rfl : (129 : Int) + 1 + own_sz y1 = 258) hle1 (own_rd_step ((own_n4 y2).mp hc45'') (by rw [hs2]; rfl : (258 : Int) + 1 + own_sz y2 = 387) hle2 (own_rd_eq heq))))).symm) N56
                      · skip
                        refine Run.x_icmpYes (q := 54) X48 hx (hb hby d7_45) (flt hc45'').2.1 (by decide) (by decide) ?_
                        refine Run.x_iconst (q := 55) X48 hx (hb hby d7_54) (z := (0 : Int32)) rfl rfl ?_
                        replace E_this := (E_this.wr W32).wr W48
                        replace F_this_quantisation := F_this_quantisation.other W48 (Or.inl ne_this_qa)
                        refine Run.retN X48 hx hlk e48 (t := .boolean) hret (by simp) (z' := (0 : Int32)) (by decide) (hb hby d7_55) (by decide) (by decide) ?_
                        have kk : (0 : Int32).toInt = 0 ∧ (129 : Int32).toInt = 129 ∧ (258 : Int32).toInt = 258 ∧ (387 : Int32).toInt = 387 ∧ (4 : Int32).toInt = 4 := by decide
                        have hne2 : ¬ (258 : Int) = ll.toInt := by have q := hc5''; rw [lt32] at q; omega
                        have hne1 : ¬ (129 : Int) = ll.toInt := by have q := hc5'; rw [lt32] at q; omega
                        have hne0 : ¬ (0 : Int) = ll.toInt := by have q := hc5; rw [lt32] at q; omega
                        exact PureK_mk ((own_b0 (own_rd_bk hne0 (by rw [hs0]; rfl : (0 : Int) + 1 + own_sz y0 = 129) (own_rd_bk hne1 (by rw [hs1]; rfl : (129 : Int) + 1 + own_sz y1 = 258) (own_rd_no1 hne2 (mt (own_n4 y2).mpr hc45''))))).symm) N48
                  · skip
                    refine Run.x_icmpYes (q := 67) X48 hx (hb hby d7_5) (flt hc5'').2.1 (by decide) (by decide) ?_
                    refine Run.x_iconst (q := 68) X48 hx (hb hby d7_67) (z := (1 : Int32)) rfl rfl ?_
                    replace E_this := (E_this.wr W32).wr W48
                    replace F_this_quantisation := F_this_quantisation.other W48 (Or.inl ne_this_qa)
                    refine Run.retN X48 hx hlk e48 (t := .boolean) hret (by simp) (z' := (1 : Int32)) (by decide) (hb hby d7_68) (by decide) (by decide) ?_
                    have kk : (0 : Int32).toInt = 0 ∧ (129 : Int32).toInt = 129 ∧ (258 : Int32).toInt = 258 ∧ (4 : Int32).toInt = 4 := by decide
                    have heq : (258 : Int) = ll.toInt := by have q := hc5''; rw [lt32] at q; have q2 := hc51'; rw [lt32] at q2; omega
                    have hle1 : (258 : Int) ≤ ll.toInt := by have q := hc51'; rw [lt32] at q; omega
                    have hle0 : (129 : Int) ≤ ll.toInt := by have q := hc51; rw [lt32] at q; omega
                    exact PureK_mk ((own_b1 (own_rd_step ((own_n4 y0).mp hc45) (by rw [hs0]; rfl : (0 : Int) + 1 + own_sz y0 = 129) hle0 (own_rd_step ((own_n4 y1).mp hc45') (by rw [hs1]; rfl : (129 : Int) + 1 + own_sz y1 = 258) hle1 (own_rd_eq heq)))).symm) N48
              · skip
                refine Run.x_icmpYes (q := 54) X32 hx (hb hby d7_45) (flt hc45').2.1 (by decide) (by decide) ?_
                refine Run.x_iconst (q := 55) X32 hx (hb hby d7_54) (z := (0 : Int32)) rfl rfl ?_
                replace E_this := E_this.wr W32
                replace F_this_quantisation := F_this_quantisation.other W32 (Or.inl ne_this_qa)
                refine Run.retN X32 hx hlk e32 (t := .boolean) hret (by simp) (z' := (0 : Int32)) (by decide) (hb hby d7_55) (by decide) (by decide) ?_
                have kk : (0 : Int32).toInt = 0 ∧ (129 : Int32).toInt = 129 ∧ (258 : Int32).toInt = 258 ∧ (4 : Int32).toInt = 4 := by decide
                have hne1 : ¬ (129 : Int) = ll.toInt := by have q := hc5'; rw [lt32] at q; omega
                have hne0 : ¬ (0 : Int) = ll.toInt := by have q := hc5; rw [lt32] at q; omega
                exact PureK_mk ((own_b0 (own_rd_bk hne0 (by rw [hs0]; rfl : (0 : Int) + 1 + own_sz y0 = 129) (own_rd_no1 hne1 (mt (own_n4 y1).mpr hc45')))).symm) N32
          · skip
            refine Run.x_icmpYes (q := 67) X32 hx (hb hby d7_5) (flt hc5').2.1 (by decide) (by decide) ?_
            refine Run.x_iconst (q := 68) X32 hx (hb hby d7_67) (z := (1 : Int32)) rfl rfl ?_
            replace E_this := E_this.wr W32
            replace F_this_quantisation := F_this_quantisation.other W32 (Or.inl ne_this_qa)
            refine Run.retN X32 hx hlk e32 (t := .boolean) hret (by simp) (z' := (1 : Int32)) (by decide) (hb hby d7_68) (by decide) (by decide) ?_
            have kk : (0 : Int32).toInt = 0 ∧ (129 : Int32).toInt = 129 ∧ (4 : Int32).toInt = 4 := by decide
            have heq : (129 : Int) = ll.toInt := by have q := hc5'; rw [lt32] at q; have q2 := hc51; rw [lt32] at q2; omega
            have hle0 : (129 : Int) ≤ ll.toInt := by have q := hc51; rw [lt32] at q; omega
            exact PureK_mk ((own_b1 (own_rd_step ((own_n4 y0).mp hc45) (by rw [hs0]; rfl : (0 : Int) + 1 + own_sz y0 = 129) hle0 (own_rd_eq heq))).symm) N32
      · skip
        refine Run.x_icmpYes (q := 54) X0 hx (hb hby d7_45) (flt hc45).2.1 (by decide) (by decide) ?_
        refine Run.x_iconst (q := 55) X0 hx (hb hby d7_54) (z := (0 : Int32)) rfl rfl ?_
        refine Run.retN X0 hx hlk e0 (t := .boolean) hret (by simp) (z' := (0 : Int32)) (by decide) (hb hby d7_55) (by decide) (by decide) ?_
        have kk : (0 : Int32).toInt = 0 ∧ (129 : Int32).toInt = 129 ∧ (4 : Int32).toInt = 4 := by decide
        have hne0 : ¬ (0 : Int) = ll.toInt := by have q := hc5; rw [lt32] at q; omega
        exact PureK_mk ((own_b0 (own_rd_no1 hne0 (mt (own_n4 y0).mpr hc45))).symm) N0
  · skip
    refine Run.x_icmpYes (q := 67) X0 hx (hb hby d7_5) (flt hc5).2.1 (by decide) (by decide) ?_
    refine Run.x_iconst (q := 68) X0 hx (hb hby d7_67) (z := (1 : Int32)) rfl rfl ?_
    refine Run.retN X0 hx hlk e0 (t := .boolean) hret (by simp) (z' := (1 : Int32)) (by decide) (hb hby d7_68) (by decide) (by decide) ?_
    have kk : (0 : Int32).toInt = 0 ∧ (4 : Int32).toInt = 4 := by decide
    have heq : (0 : Int) = ll.toInt := by have q := hc5; rw [lt32] at q; omega
    exact PureK_mk ((own_b1 (own_rd_eq heq)).symm) N0
theorem own_l {p v : Int32} (h : (p &&& 2147483647) % 261 = v) : 0 ≤ v.toInt ∧ v.toInt ≤ 260 := by
  have q := c_mask p 2147483647 31 (by decide) (by decide)
  have r := (c_irem (p &&& 2147483647) 261 261 (by decide)).1 (by rw [q]; omega)
  rw [h] at r
  omega
theorem own_rng {x h : Int32} (e : x &&& 255 = h) : 0 ≤ h.toInt ∧ h.toInt ≤ 255 := e ▸ own_255 x
theorem own_szr (h : Int32) : own_sz h = 64 ∨ own_sz h = 128 := by
  unfold own_sz
  split <;> simp
theorem own_e {a z v : Int32} {k : Int} (h : a + z = v) (ha : 0 ≤ a.toInt) (ha' : a.toInt ≤ 1000) (hz : z.toInt = k) (hk : k = 64 ∨ k = 128) : v.toInt = a.toInt + k := by
  have q := c_iadd a z
  have r := rng32 v
  rw [h] at q
  omega
theorem own_1 {a : Int32} (ha : 0 ≤ a.toInt) (ha' : a.toInt ≤ 999) : (a + 1).toInt = a.toInt + 1 := by
  have q := c_iadd a 1
  have r := rng32 (a + 1)
  have : (1 : Int32).toInt = 1 := rfl
  omega
theorem own_nat {v : Int32} (h : 0 ≤ v.toInt) : ¬ v < 0 ∧ v.toNatClampNeg = v.toInt.toNat := ⟨by rw [lt32]; have : (0 : Int32).toInt = 0 := rfl; omega, rfl⟩
theorem own_ln {v : Int32} {n : Nat} (h : v.toInt = n) (h' : n ≤ 260) : n.toInt32 = v := by
  rw [eq32, h]
  exact len_toInt (Nat.lt_of_le_of_lt h' (by decide))
theorem own_set {vs : List Value} {i : Nat} {v : Value} (h : ¬ i < vs.length) : vs.set i v = vs := List.set_eq_of_length_le (Nat.le_of_not_lt h)
theorem ef_c_law (m : MethodId) (p1 : Int32) (p2 : Int32) (p3 : Int32) (p4 : Int32) (p5 : Int32) : entryFrame m #[(.int p1), (.int p2), (.int p3), (.int p4), (.int p5)] maxLocals = mkF m 0 #[.val (.int p1), .val (.int p2), .val (.int p3), .val (.int p4), .val (.int p5), .unset, .unset, .unset, .unset, .unset, .unset, .unset, .unset, .unset, .unset, .unset, .unset] [] := by first | (simp [entryFrame, mkF, argsToLocals, Value.category, maxLocals]; done) | rfl
theorem pd_1 : parseMethodDescriptor "(I)I" = some ⟨[.int], some .int⟩ := by decide +kernel
theorem pd_2 : parseMethodDescriptor "([B)Z" = some ⟨[(.array .byte)], some .boolean⟩ := by decide +kernel
theorem pd_3 : parseMethodDescriptor "(I)Z" = some ⟨[.int], some .boolean⟩ := by decide +kernel
set_option maxRecDepth 65536 in
set_option maxHeartbeats 40000000 in
theorem c_law (l : Launch) (Z : State) (a0 : Array Value) (hw : ∀ d ∈ tables_1, d.before a0 Z = true) (p1 : Int32) (p2 : Int32) (p3 : Int32) (p4 : Int32) (p5 : Int32) (h0 : Heap) (n0 : Nat) (Z0 : n0 ≤ h0.size) (sd : Addr) (S_DEFAULTCAPACITY_EMPTY_ELEMENTDATA : Sta Z h0 "java/util/ArrayList" "DEFAULTCAPACITY_EMPTY_ELEMENTDATA" "[Ljava/lang/Object;" (.ref sd)) :
    Ctr l Z x code maxLocals ret room_1 #[(.int p1), (.int p2), (.int p3), (.int p4), (.int p5)] h0 (Tru n0) := by
  refine Ctr.of (plainFor_of_name pn_0) (fun m => ef_c_law m p1 p2 p3 p4 p5) ?_
  intro p e s m below meth c T0 hx hby hml hown hnm hret hlk hZ e0 X0
  have N0 := Fr.nil n0
  replace hown : s.vm.findClass "semblance/JpegCoefficientsReadQuantisationTablesPinLaw" = some m.cls := hown
  replace hml : c.maxLocals = 17 := hml
  refine Run.x_iloadN (q := 1) X0 hx (hb hby at_0) rfl rfl ?_
  refine Run.st (B := T0.setTop (mkF m 3 #[.val (.int p1), .val (.int p2), .val (.int p3), .val (.int p4), .val (.int p5), .unset, .unset, .unset, .unset, .unset, .unset, .unset, .unset, .unset, .unset, .unset, .unset] [(.int (2147483647 : Int32)), (.int p1)])) (fun t kt => X0.ldcInt hx hown (mvT hZ (hw _ (List.mem_of_getElem? (i := 0) rfl))) (g := (mkF m 1 #[.val (.int p1), .val (.int p2), .val (.int p3), .val (.int p4), .val (.int p5), .unset, .unset, .unset, .unset, .unset, .unset, .unset, .unset, .unset, .unset, .unset, .unset] [(.int p1)])) rfl (hb hby at_1) _ kt) ?_
  refine Run.x_iand (q := 4) X0 hx (hb hby at_3) rfl rfl ?_
  refine Run.x_sipush (q := 7) X0 hx (hb hby at_4) (z := (261 : Int32)) rfl rfl ?_
  refine Run.x_irem (q := 8) X0 hx (hb hby at_7) (by decide) rfl rfl ?_
  refine Run.x_istore (q := 10) X0 hx #[.val (.int p1), .val (.int p2), .val (.int p3), .val (.int p4), .val (.int p5), .val (.int ((p1 &&& (2147483647 : Int32)) % (261 : Int32))), .unset, .unset, .unset, .unset, .unset, .unset, .unset, .unset, .unset, .unset, .unset] (hb hby at_8) rfl rfl ?_
  generalize hll : ((p1 &&& (2147483647 : Int32)) % (261 : Int32)) = ll
  refine Run.x_iloadN (q := 11) X0 hx (hb hby at_10) rfl rfl ?_
  refine Run.x_sipush (q := 14) X0 hx (hb hby at_11) (z := (255 : Int32)) rfl rfl ?_
  refine Run.x_iand (q := 15) X0 hx (hb hby at_14) rfl rfl ?_
  refine Run.x_istore (q := 17) X0 hx #[.val (.int p1), .val (.int p2), .val (.int p3), .val (.int p4), .val (.int p5), .val (.int ll), .val (.int (p2 &&& (255 : Int32))), .unset, .unset, .unset, .unset, .unset, .unset, .unset, .unset, .unset, .unset] (hb hby at_15) rfl rfl ?_
  generalize hy0 : (p2 &&& (255 : Int32)) = y0
  refine Run.x_iloadN (q := 18) X0 hx (hb hby at_17) rfl rfl ?_
  refine Run.x_sipush (q := 21) X0 hx (hb hby at_18) (z := (255 : Int32)) rfl rfl ?_
  refine Run.x_iand (q := 22) X0 hx (hb hby at_21) rfl rfl ?_
  refine Run.x_istore (q := 24) X0 hx #[.val (.int p1), .val (.int p2), .val (.int p3), .val (.int p4), .val (.int p5), .val (.int ll), .val (.int y0), .val (.int (p3 &&& (255 : Int32))), .unset, .unset, .unset, .unset, .unset, .unset, .unset, .unset, .unset] (hb hby at_22) rfl rfl ?_
  generalize hy1 : (p3 &&& (255 : Int32)) = y1
  refine Run.x_iloadN (q := 25) X0 hx (hb hby at_24) rfl rfl ?_
  refine Run.x_sipush (q := 28) X0 hx (hb hby at_25) (z := (255 : Int32)) rfl rfl ?_
  refine Run.x_iand (q := 29) X0 hx (hb hby at_28) rfl rfl ?_
  refine Run.x_istore (q := 31) X0 hx #[.val (.int p1), .val (.int p2), .val (.int p3), .val (.int p4), .val (.int p5), .val (.int ll), .val (.int y0), .val (.int y1), .val (.int (p4 &&& (255 : Int32))), .unset, .unset, .unset, .unset, .unset, .unset, .unset, .unset] (hb hby at_29) rfl rfl ?_
  generalize hy2 : (p4 &&& (255 : Int32)) = y2
  refine Run.x_iload (q := 33) X0 hx (hb hby at_31) rfl rfl ?_
  refine Run.x_sipush (q := 36) X0 hx (hb hby at_33) (z := (255 : Int32)) rfl rfl ?_
  refine Run.x_iand (q := 37) X0 hx (hb hby at_36) rfl rfl ?_
  refine Run.x_istore (q := 39) X0 hx #[.val (.int p1), .val (.int p2), .val (.int p3), .val (.int p4), .val (.int p5), .val (.int ll), .val (.int y0), .val (.int y1), .val (.int y2), .val (.int (p5 &&& (255 : Int32))), .unset, .unset, .unset, .unset, .unset, .unset, .unset] (hb hby at_37) rfl rfl ?_
  generalize hy3 : (p5 &&& (255 : Int32)) = y3
  refine Run.x_iconst (q := 40) X0 hx (hb hby at_39) (z := (1 : Int32)) rfl rfl ?_
  refine Run.x_iload (q := 42) X0 hx (hb hby at_40) rfl rfl ?_
  refine Run.callS X0 hx hZ e0 (y := (⟨"semblance/JpegCoefficientsReadQuantisationTablesPinLaw", "size", "(I)I"⟩ : MethodName)) hown (hw _ (List.mem_of_getElem? (i := 1) rfl)) (hw _ (List.mem_of_getElem? (i := 2) rfl)) (hw _ (List.mem_of_getElem? (i := 3) rfl)) (hw _ (List.mem_of_getElem? (i := 4) rfl)) (by decide) (argsL := [(.int y0)]) (rest := [(.int (1 : Int32))]) (c_size l Z a0 hw y0 h0 n0 Z0) pd_1 rfl (by rw [hml]; rfl) (W := 1) rfl (by decide) (by decide) (by decide) (by decide) (hb hby at_42) rfl ?_
  intro T1 v1 L1 X1 q1
  obtain ⟨z1, rfl, M1, e1, hz1⟩ := q1
  have N1 := Fr.app N0 M1
  show Run p e below s _ _ _ (T1.setTop (mkF m 45 #[.val (.int p1), .val (.int p2), .val (.int p3), .val (.int p4), .val (.int p5), .val (.int ll), .val (.int y0), .val (.int y1), .val (.int y2), .val (.int y3), .unset, .unset, .unset, .unset, .unset, .unset, .unset] [(.int z1), (.int (1 : Int32))]))
  refine Run.x_iadd (q := 46) X1 hx (hb hby at_45) rfl rfl ?_
  refine Run.x_istore (q := 48) X1 hx #[.val (.int p1), .val (.int p2), .val (.int p3), .val (.int p4), .val (.int p5), .val (.int ll), .val (.int y0), .val (.int y1), .val (.int y2), .val (.int y3), .val (.int ((1 : Int32) + z1)), .unset, .unset, .unset, .unset, .unset, .unset] (hb hby at_46) rfl rfl ?_
  generalize hd0 : ((1 : Int32) + z1) = d0
  refine Run.x_iload (q := 50) X1 hx (hb hby at_48) rfl rfl ?_
  refine Run.x_iconst (q := 51) X1 hx (hb hby at_50) (z := (1 : Int32)) rfl rfl ?_
  refine Run.x_iadd (q := 52) X1 hx (hb hby at_51) rfl rfl ?_
  refine Run.x_iload (q := 54) X1 hx (hb hby at_52) rfl rfl ?_
  refine Run.callS X1 hx hZ e1 (y := (⟨"semblance/JpegCoefficientsReadQuantisationTablesPinLaw", "size", "(I)I"⟩ : MethodName)) hown (hw _ (List.mem_of_getElem? (i := 1) rfl)) (hw _ (List.mem_of_getElem? (i := 2) rfl)) (hw _ (List.mem_of_getElem? (i := 3) rfl)) (hw _ (List.mem_of_getElem? (i := 4) rfl)) (by decide) (argsL := [(.int y1)]) (rest := [(.int (d0 + (1 : Int32)))]) (c_size l Z a0 hw y1 h0 n0 Z0) pd_1 rfl (by rw [hml]; rfl) (W := 1) rfl (by decide) (by decide) (by decide) (by decide) (hb hby at_54) rfl ?_
  intro T2 v2 L2 X2 q2
  obtain ⟨z2, rfl, M2, e2, hz2⟩ := q2
  have N2 := Fr.app N1 M2
  show Run p e below s _ _ _ (T2.setTop (mkF m 57 #[.val (.int p1), .val (.int p2), .val (.int p3), .val (.int p4), .val (.int p5), .val (.int ll), .val (.int y0), .val (.int y1), .val (.int y2), .val (.int y3), .val (.int d0), .unset, .unset, .unset, .unset, .unset, .unset] [(.int z2), (.int (d0 + (1 : Int32)))]))
  refine Run.x_iadd (q := 58) X2 hx (hb hby at_57) rfl rfl ?_
  refine Run.x_istore (q := 60) X2 hx #[.val (.int p1), .val (.int p2), .val (.int p3), .val (.int p4), .val (.int p5), .val (.int ll), .val (.int y0), .val (.int y1), .val (.int y2), .val (.int y3), .val (.int d0), .val (.int ((d0 + (1 : Int32)) + z2)), .unset, .unset, .unset, .unset, .unset] (hb hby at_58) rfl rfl ?_
  generalize hd1 : ((d0 + (1 : Int32)) + z2) = d1
  refine Run.x_iload (q := 62) X2 hx (hb hby at_60) rfl rfl ?_
  refine Run.x_iconst (q := 63) X2 hx (hb hby at_62) (z := (1 : Int32)) rfl rfl ?_
  refine Run.x_iadd (q := 64) X2 hx (hb hby at_63) rfl rfl ?_
  refine Run.x_iload (q := 66) X2 hx (hb hby at_64) rfl rfl ?_
  refine Run.callS X2 hx hZ e2 (y := (⟨"semblance/JpegCoefficientsReadQuantisationTablesPinLaw", "size", "(I)I"⟩ : MethodName)) hown (hw _ (List.mem_of_getElem? (i := 1) rfl)) (hw _ (List.mem_of_getElem? (i := 2) rfl)) (hw _ (List.mem_of_getElem? (i := 3) rfl)) (hw _ (List.mem_of_getElem? (i := 4) rfl)) (by decide) (argsL := [(.int y2)]) (rest := [(.int (d1 + (1 : Int32)))]) (c_size l Z a0 hw y2 h0 n0 Z0) pd_1 rfl (by rw [hml]; rfl) (W := 1) rfl (by decide) (by decide) (by decide) (by decide) (hb hby at_66) rfl ?_
  intro T3 v3 L3 X3 q3
  obtain ⟨z3, rfl, M3, e3, hz3⟩ := q3
  have N3 := Fr.app N2 M3
  show Run p e below s _ _ _ (T3.setTop (mkF m 69 #[.val (.int p1), .val (.int p2), .val (.int p3), .val (.int p4), .val (.int p5), .val (.int ll), .val (.int y0), .val (.int y1), .val (.int y2), .val (.int y3), .val (.int d0), .val (.int d1), .unset, .unset, .unset, .unset, .unset] [(.int z3), (.int (d1 + (1 : Int32)))]))
  refine Run.x_iadd (q := 70) X3 hx (hb hby at_69) rfl rfl ?_
  refine Run.x_istore (q := 72) X3 hx #[.val (.int p1), .val (.int p2), .val (.int p3), .val (.int p4), .val (.int p5), .val (.int ll), .val (.int y0), .val (.int y1), .val (.int y2), .val (.int y3), .val (.int d0), .val (.int d1), .val (.int ((d1 + (1 : Int32)) + z3)), .unset, .unset, .unset, .unset] (hb hby at_70) rfl rfl ?_
  generalize hd2 : ((d1 + (1 : Int32)) + z3) = d2
  refine Run.x_iload (q := 74) X3 hx (hb hby at_72) rfl rfl ?_
  refine Run.x_iconst (q := 75) X3 hx (hb hby at_74) (z := (1 : Int32)) rfl rfl ?_
  refine Run.x_iadd (q := 76) X3 hx (hb hby at_75) rfl rfl ?_
  refine Run.x_iload (q := 78) X3 hx (hb hby at_76) rfl rfl ?_
  refine Run.callS X3 hx hZ e3 (y := (⟨"semblance/JpegCoefficientsReadQuantisationTablesPinLaw", "size", "(I)I"⟩ : MethodName)) hown (hw _ (List.mem_of_getElem? (i := 1) rfl)) (hw _ (List.mem_of_getElem? (i := 2) rfl)) (hw _ (List.mem_of_getElem? (i := 3) rfl)) (hw _ (List.mem_of_getElem? (i := 4) rfl)) (by decide) (argsL := [(.int y3)]) (rest := [(.int (d2 + (1 : Int32)))]) (c_size l Z a0 hw y3 h0 n0 Z0) pd_1 rfl (by rw [hml]; rfl) (W := 1) rfl (by decide) (by decide) (by decide) (by decide) (hb hby at_78) rfl ?_
  intro T4 v4 L4 X4 q4
  obtain ⟨z4, rfl, M4, e4, hz4⟩ := q4
  have N4 := Fr.app N3 M4
  show Run p e below s _ _ _ (T4.setTop (mkF m 81 #[.val (.int p1), .val (.int p2), .val (.int p3), .val (.int p4), .val (.int p5), .val (.int ll), .val (.int y0), .val (.int y1), .val (.int y2), .val (.int y3), .val (.int d0), .val (.int d1), .val (.int d2), .unset, .unset, .unset, .unset] [(.int z4), (.int (d2 + (1 : Int32)))]))
  refine Run.x_iadd (q := 82) X4 hx (hb hby at_81) rfl rfl ?_
  refine Run.x_istore (q := 84) X4 hx #[.val (.int p1), .val (.int p2), .val (.int p3), .val (.int p4), .val (.int p5), .val (.int ll), .val (.int y0), .val (.int y1), .val (.int y2), .val (.int y3), .val (.int d0), .val (.int d1), .val (.int d2), .val (.int ((d2 + (1 : Int32)) + z4)), .unset, .unset, .unset] (hb hby at_82) rfl rfl ?_
  generalize hd3 : ((d2 + (1 : Int32)) + z4) = d3
  have hl := own_l hll
  have ry0 := own_rng hy0
  have ry1 := own_rng hy1
  have ry2 := own_rng hy2
  have ry3 := own_rng hy3
  have k1 : (1 : Int32).toInt = 1 := rfl
  have hr0 := own_szr y0
  have he0 := own_e hd0 (by omega) (by omega) hz1 hr0
  have hr1 := own_szr y1
  have ho1 := own_1 (a := d0) (by omega) (by omega)
  have he1 := own_e hd1 (by omega) (by omega) hz2 hr1
  have hr2 := own_szr y2
  have ho2 := own_1 (a := d1) (by omega) (by omega)
  have he2 := own_e hd2 (by omega) (by omega) hz3 hr2
  have hr3 := own_szr y3
  have ho3 := own_1 (a := d2) (by omega) (by omega)
  have he3 := own_e hd3 (by omega) (by omega) hz4 hr3
  obtain ⟨nn, hnl⟩ : ∃ n : Nat, ll.toInt = n := ⟨ll.toInt.toNat, by omega⟩
  obtain ⟨n1, hn1⟩ : ∃ n : Nat, d0.toInt = n := ⟨d0.toInt.toNat, by omega⟩
  obtain ⟨n2, hn2⟩ : ∃ n : Nat, d1.toInt = n := ⟨d1.toInt.toNat, by omega⟩
  obtain ⟨n3, hn3⟩ : ∃ n : Nat, d2.toInt = n := ⟨d2.toInt.toNat, by omega⟩
  have hnn' : ll.toNatClampNeg = nn := by rw [(own_nat hl.1).2, hnl]; rfl
  have hnc : nn ≤ 260 := by omega
  refine Run.x_iload (q := 86) X4 hx (hb hby at_84) rfl rfl ?_
  refine Run.newP X4 hx hZ e4 (hw _ (List.mem_of_getElem? (i := 5) rfl)) (hb hby at_86) (len := nn) (own_nat hl.1).1 hnn' (cap := 260) hnc (by decide) (by decide) (by decide) ?_
  intro T5 h5 b5 gg5 X5 e5 E5 A_b5
  have g_b5 : n0 ≤ b5 := Nat.le_trans Z0 (Nat.le_of_eq gg5.symm)
  have Z5 : n0 ≤ h5.size := Nat.le_trans Z0 E5.1
  replace A_b5 : Ars Z h5 b5 .byte (List.replicate nn (.int (0 : Int32))) := A_b5
  show Run p e below s _ _ _ (T5.setTop (mkF m 88 #[.val (.int p1), .val (.int p2), .val (.int p3), .val (.int p4), .val (.int p5), .val (.int ll), .val (.int y0), .val (.int y1), .val (.int y2), .val (.int y3), .val (.int d0), .val (.int d1), .val (.int d2), .val (.int d3), .unset, .unset, .unset] [(.ref b5)]))
  refine Run.x_astore (q := 90) X5 hx #[.val (.int p1), .val (.int p2), .val (.int p3), .val (.int p4), .val (.int p5), .val (.int ll), .val (.int y0), .val (.int y1), .val (.int y2), .val (.int y3), .val (.int d0), .val (.int d1), .val (.int d2), .val (.int d3), .val (.ref b5), .unset, .unset] (hb hby at_88) rfl rfl rfl ?_
  have c0 : (0 : Int32).toInt = 0 := rfl
  have J147 : ∀ (T6 : State) (h6 : Heap) (lo6 : List Loc), Stand p l e room_1 s m #[(.int p1), (.int p2), (.int p3), (.int p4), (.int p5)] below meth c T6 lo6 1 260 → T6.heap = h6 → Fr n0 lo6 → n0 ≤ h6.size → Sta Z h6 "java/util/ArrayList" "DEFAULTCAPACITY_EMPTY_ELEMENTDATA" "[Ljava/lang/Object;" (.ref sd) → Ars Z h6 b5 .byte (((((List.replicate nn (Value.int (0 : Int32))).set 0 (Value.int y0.toInt8.toInt32)).set n1 (Value.int y1.toInt8.toInt32)).set n2 (Value.int y2.toInt8.toInt32)).set n3 (Value.int y3.toInt8.toInt32)) → Run p e below s (Tru n0) room_1.cells room_1.slots (T6.setTop (mkF m 147 #[.val (.int p1), .val (.int p2), .val (.int p3), .val (.int p4), .val (.int p5), .val (.int ll), .val (.int y0), .val (.int y1), .val (.int y2), .val (.int y3), .val (.int d0), .val (.int d1), .val (.int d2), .val (.int d3), .val (.ref b5), .unset, .unset] [])) := by
    intro T6 h6 lo6 X6 e6 N6 Z6 S_DEFAULTCAPACITY_EMPTY_ELEMENTDATA A_b5
    have hlen4 := own_ln (v := ll) (n := (((((List.replicate nn (Value.int (0 : Int32))).set 0 (Value.int y0.toInt8.toInt32)).set n1 (Value.int y1.toInt8.toInt32)).set n2 (Value.int y2.toInt8.toInt32)).set n3 (Value.int y3.toInt8.toInt32)).length) (by simp only [List.length_set, List.length_replicate]; exact hnl) (by simp only [List.length_set, List.length_replicate]; exact hnc)
    have hlt4 : ll.toInt = (((((List.replicate nn (Value.int (0 : Int32))).set 0 (Value.int y0.toInt8.toInt32)).set n1 (Value.int y1.toInt8.toInt32)).set n2 (Value.int y2.toInt8.toInt32)).set n3 (Value.int y3.toInt8.toInt32)).length := by simp only [List.length_set, List.length_replicate]; exact hnl
    have hle4 : (((((List.replicate nn (Value.int (0 : Int32))).set 0 (Value.int y0.toInt8.toInt32)).set n1 (Value.int y1.toInt8.toInt32)).set n2 (Value.int y2.toInt8.toInt32)).set n3 (Value.int y3.toInt8.toInt32)).length ≤ 260 := by simp only [List.length_set, List.length_replicate]; exact hnc
    have hq0 : 0 < ((((((List.replicate nn (Value.int (0 : Int32))).set 0 (Value.int y0.toInt8.toInt32)).set n1 (Value.int y1.toInt8.toInt32)).set n2 (Value.int y2.toInt8.toInt32)).set n3 (Value.int y3.toInt8.toInt32)) : List Value).length → ((((((List.replicate nn (Value.int (0 : Int32))).set 0 (Value.int y0.toInt8.toInt32)).set n1 (Value.int y1.toInt8.toInt32)).set n2 (Value.int y2.toInt8.toInt32)).set n3 (Value.int y3.toInt8.toInt32)) : List Value)[0]? = some (.int y0.toInt8.toInt32) := by
      intro hi
      simp only [List.length_set, List.length_replicate] at hi
      rw [List.getElem?_set_ne (by omega)]
      rw [List.getElem?_set_ne (by omega)]
      rw [List.getElem?_set_ne (by omega)]
      rw [List.getElem?_set_self (by simp only [List.length_set, List.length_replicate]; exact hi)]
    have hq1 : ∀ i : Nat, (i : Int) = 0 + 1 + own_sz y0 → i < ((((((List.replicate nn (Value.int (0 : Int32))).set 0 (Value.int y0.toInt8.toInt32)).set n1 (Value.int y1.toInt8.toInt32)).set n2 (Value.int y2.toInt8.toInt32)).set n3 (Value.int y3.toInt8.toInt32)) : List Value).length → ((((((List.replicate nn (Value.int (0 : Int32))).set 0 (Value.int y0.toInt8.toInt32)).set n1 (Value.int y1.toInt8.toInt32)).set n2 (Value.int y2.toInt8.toInt32)).set n3 (Value.int y3.toInt8.toInt32)) : List Value)[i]? = some (.int y1.toInt8.toInt32) := by
      intro i hv hi
      simp only [List.length_set, List.length_replicate] at hi
      obtain rfl : i = n1 := by omega
      rw [List.getElem?_set_ne (by omega)]
      rw [List.getElem?_set_ne (by omega)]
      rw [List.getElem?_set_self (by simp only [List.length_set, List.length_replicate]; exact hi)]
    have hq2 : ∀ i : Nat, (i : Int) = 0 + 1 + own_sz y0 + 1 + own_sz y1 → i < ((((((List.replicate nn (Value.int (0 : Int32))).set 0 (Value.int y0.toInt8.toInt32)).set n1 (Value.int y1.toInt8.toInt32)).set n2 (Value.int y2.toInt8.toInt32)).set n3 (Value.int y3.toInt8.toInt32)) : List Value).length → ((((((List.replicate nn (Value.int (0 : Int32))).set 0 (Value.int y0.toInt8.toInt32)).set n1 (Value.int y1.toInt8.toInt32)).set n2 (Value.int y2.toInt8.toInt32)).set n3 (Value.int y3.toInt8.toInt32)) : List Value)[i]? = some (.int y2.toInt8.toInt32) := by
      intro i hv hi
      simp only [List.length_set, List.length_replicate] at hi
      obtain rfl : i = n2 := by omega
      rw [List.getElem?_set_ne (by omega)]
      rw [List.getElem?_set_self (by simp only [List.length_set, List.length_replicate]; exact hi)]
    have hq3 : ∀ i : Nat, (i : Int) = 0 + 1 + own_sz y0 + 1 + own_sz y1 + 1 + own_sz y2 → i < ((((((List.replicate nn (Value.int (0 : Int32))).set 0 (Value.int y0.toInt8.toInt32)).set n1 (Value.int y1.toInt8.toInt32)).set n2 (Value.int y2.toInt8.toInt32)).set n3 (Value.int y3.toInt8.toInt32)) : List Value).length → ((((((List.replicate nn (Value.int (0 : Int32))).set 0 (Value.int y0.toInt8.toInt32)).set n1 (Value.int y1.toInt8.toInt32)).set n2 (Value.int y2.toInt8.toInt32)).set n3 (Value.int y3.toInt8.toInt32)) : List Value)[i]? = some (.int y3.toInt8.toInt32) := by
      intro i hv hi
      simp only [List.length_set, List.length_replicate] at hi
      obtain rfl : i = n3 := by omega
      rw [List.getElem?_set_self (by simp only [List.length_set, List.length_replicate]; exact hi)]
    refine Run.x_iload (q := 149) X6 hx (hb hby at_147) rfl rfl ?_
    by_cases hc149 : ll = (0 : Int32)
    · skip
      refine Run.x_ifNo (q := 152) X6 hx (hb hby at_149) ((if0 _ _).trans (teq hc149).2) rfl ?_
      refine Run.x_iconst (q := 153) X6 hx (hb hby at_152) (z := (1 : Int32)) rfl rfl ?_
      refine Run.x_istore (q := 155) X6 hx #[.val (.int p1), .val (.int p2), .val (.int p3), .val (.int p4), .val (.int p5), .val (.int ll), .val (.int y0), .val (.int y1), .val (.int y2), .val (.int y3), .val (.int d0), .val (.int d1), .val (.int d2), .val (.int d3), .val (.ref b5), .val (.int (1 : Int32)), .unset] (hb hby at_153) rfl rfl ?_
      refine Run.x_goto (q := 282) X6 hx (hb hby at_155) (by decide) (by decide) ?_
      obtain ⟨T7, h7, X7, e7, E7, A7, D7, -, st7⟩ := newO X6 hx hZ hown (hw _ (List.mem_of_getElem? (i := 6) rfl)) (hw _ (List.mem_of_getElem? (i := 7) rfl)) (hw _ (List.mem_of_getElem? (i := 8) rfl)) e6 (g := (mkF m 282 #[.val (.int p1), .val (.int p2), .val (.int p3), .val (.int p4), .val (.int p5), .val (.int ll), .val (.int y0), .val (.int y1), .val (.int y2), .val (.int y3), .val (.int d0), .val (.int d1), .val (.int d2), .val (.int d3), .val (.ref b5), .val (.int (1 : Int32)), .unset] [])) rfl (hb hby at_282) (by decide) (by decide)
      obtain ⟨b7, gg7⟩ : ∃ z, z = h6.size := ⟨_, rfl⟩
      rw [← gg7] at A7 D7 st7
      have g_b7 : n0 ≤ b7 := Nat.le_trans Z6 (Nat.le_of_eq gg7.symm)
      have ne_b5_b7 : b5 ≠ b7 := Nat.ne_of_lt (Nat.lt_of_lt_of_le A_b5.lt (Nat.le_of_eq gg7.symm))
      have Z7 : n0 ≤ h7.size := Nat.le_trans Z6 E7.1
      have E_b7 := A7
      have F_b7_dcTables : Fld Z h7 b7 "semblance/JpegCoefficients" "dcTables" "[Lsemblance/JpegHuffmanTable;" .null := D7 (Or.inr (hw _ (List.mem_of_getElem? (i := 18) rfl))) (ty := (.array (.object "semblance/JpegHuffmanTable"))) (by decide)
      have F_b7_acTables : Fld Z h7 b7 "semblance/JpegCoefficients" "acTables" "[Lsemblance/JpegHuffmanTable;" .null := D7 (Or.inr (hw _ (List.mem_of_getElem? (i := 20) rfl))) (ty := (.array (.object "semblance/JpegHuffmanTable"))) (by decide)
      have F_b7_quantisation : Fld Z h7 b7 "semblance/JpegCoefficients" "quantisation" "[Z" .null := D7 (Or.inr (hw _ (List.mem_of_getElem? (i := 23) rfl))) (ty := (.array .boolean)) (by decide)
      have F_b7_scans : Fld Z h7 b7 "semblance/JpegCoefficients" "scans" "Ljava/util/List;" .null := D7 (Or.inr (hw _ (List.mem_of_getElem? (i := 49) rfl))) (ty := (.object "java/util/List")) (by decide)
      refine Run.st st7 ?_
      show Run p e below s _ _ _ (T7.setTop (mkF m 285 #[.val (.int p1), .val (.int p2), .val (.int p3), .val (.int p4), .val (.int p5), .val (.int ll), .val (.int y0), .val (.int y1), .val (.int y2), .val (.int y3), .val (.int d0), .val (.int d1), .val (.int d2), .val (.int d3), .val (.ref b5), .val (.int (1 : Int32)), .unset] [(.ref b7)]))
      refine Run.x_dup (q := 286) X7 hx (hb hby at_285) rfl rfl ?_
      replace S_DEFAULTCAPACITY_EMPTY_ELEMENTDATA := S_DEFAULTCAPACITY_EMPTY_ELEMENTDATA.ext E7
      refine Run.callC X7 hx hZ e7 (y := (⟨"semblance/JpegCoefficients", "<init>", "()V"⟩ : MethodName)) hown rfl (hw _ (List.mem_of_getElem? (i := 9) rfl)) (hw _ (List.mem_of_getElem? (i := 10) rfl)) (hw _ (List.mem_of_getElem? (i := 8) rfl)) (hw _ (List.mem_of_getElem? (i := 11) rfl)) (by decide) (a := b7) (argsL := []) (rest := [(.ref b7)]) (c_init l Z a0 hw b7 h7 n0 Z7 sd E_b7 F_b7_dcTables F_b7_acTables F_b7_quantisation F_b7_scans S_DEFAULTCAPACITY_EMPTY_ELEMENTDATA g_b7) pd_0 rfl (by rw [hml]; rfl) (W := 1) rfl (by decide) (by decide) (by decide) (by decide) (hb hby at_286) rfl ?_
      intro T8 v8 L8 X8 q8
      obtain ⟨q8, rfl, M8, K8, Fq8, Aq8, sq8⟩ := q8
      have N8 := Fr.app N6 M8
      show Run p e below s _ _ _ (T8.setTop (mkF m 289 #[.val (.int p1), .val (.int p2), .val (.int p3), .val (.int p4), .val (.int p5), .val (.int ll), .val (.int y0), .val (.int y1), .val (.int y2), .val (.int y3), .val (.int d0), .val (.int d1), .val (.int d2), .val (.int d3), .val (.ref b5), .val (.int (1 : Int32)), .unset] [(.ref b7)]))
      replace A_b5 := A_b5.ext E7
      have ne_b5_q8 : b5 ≠ q8 := Nat.ne_of_lt (Nat.lt_of_lt_of_le A_b5.lt sq8)
      have ne_b7_q8 : b7 ≠ q8 := Nat.ne_of_lt (Nat.lt_of_lt_of_le E_b7.lt sq8)
      have g_q8 : n0 ≤ q8 := Nat.le_trans Z7 sq8
      replace S_DEFAULTCAPACITY_EMPTY_ELEMENTDATA := Sta_keep S_DEFAULTCAPACITY_EMPTY_ELEMENTDATA K8 (allS (Exa_ns E_b7) all0)
      have Z8 : n0 ≤ T8.heap.size := Nat.le_trans Z7 K8.1
      refine Run.x_astore (q := 291) X8 hx #[.val (.int p1), .val (.int p2), .val (.int p3), .val (.int p4), .val (.int p5), .val (.int ll), .val (.int y0), .val (.int y1), .val (.int y2), .val (.int y3), .val (.int d0), .val (.int d1), .val (.int d2), .val (.int d3), .val (.ref b5), .val (.int (1 : Int32)), .val (.ref b7)] (hb hby at_289) rfl rfl rfl ?_
      refine Run.x_aload (q := 293) X8 hx (hb hby at_291) rfl rfl rfl ?_
      refine Run.x_aload (q := 295) X8 hx (hb hby at_293) rfl rfl rfl ?_
      replace E_b7 := E_b7.keep K8
      replace A_b5 := A_b5.keep K8 (ninS ne_b5_b7 nin0)
      refine Run.callV X8 hx hZ rfl (y := (⟨"semblance/JpegCoefficients", "readQuantisationTables", "([B)Z"⟩ : MethodName)) (z := (⟨"semblance/JpegCoefficients", "readQuantisationTables", "([B)Z"⟩ : MethodName)) hown (hw _ (List.mem_of_getElem? (i := 50) rfl)) (hw _ (List.mem_of_getElem? (i := 51) rfl)) (notFace_of_selects (args := #[]) (mvT hZ (hw _ (List.mem_of_getElem? (i := 53) rfl)))) (hw _ (List.mem_of_getElem? (i := 53) rfl)) (hw _ (List.mem_of_getElem? (i := 52) rfl)) (hw _ (List.mem_of_getElem? (i := 8) rfl)) (hw _ (List.mem_of_getElem? (i := 54) rfl)) (by decide) (a := b7) E_b7 (argsL := [(.ref b5)]) (rest := []) (c_rd l Z a0 hw b7 b5 T8.heap n0 Z8 q8 ll y0 y1 y2 y3 (((((List.replicate nn (Value.int (0 : Int32))).set 0 (Value.int y0.toInt8.toInt32)).set n1 (Value.int y1.toInt8.toInt32)).set n2 (Value.int y2.toInt8.toInt32)).set n3 (Value.int y3.toInt8.toInt32)) E_b7 Fq8 A_b5 Aq8 g_q8 ne_b5_q8 ne_b7_q8 hlen4 hlt4 hle4 ry0 ry1 ry2 ry3 hq0 hq1 hq2 hq3) pd_2 rfl (by rw [hml]; rfl) (W := 0) rfl (by decide) (by decide) (by decide) (by decide) (hb hby at_295) rfl ?_
      intro T9 v9 L9 X9 q9
      obtain ⟨rfl, M9⟩ := q9
      have N9 := Fr.app N8 M9
      show Run p e below s _ _ _ (T9.setTop (mkF m 298 #[.val (.int p1), .val (.int p2), .val (.int p3), .val (.int p4), .val (.int p5), .val (.int ll), .val (.int y0), .val (.int y1), .val (.int y2), .val (.int y3), .val (.int d0), .val (.int d1), .val (.int d2), .val (.int d3), .val (.ref b5), .val (.int (1 : Int32)), .val (.ref b7)] [(.int (own_b (own_rd ll.toInt 0 [y0, y1, y2, y3])))]))
      refine Run.x_iload (q := 300) X9 hx (hb hby at_298) rfl rfl ?_
      refine Run.x_icmpNo (q := 303) X9 hx (hb hby at_300) (teq (own_b1 (own_rd_eq (by have q := hc149; rw [eq32] at q; omega)))).2 rfl ?_
      refine Run.x_iconst (q := 304) X9 hx (hb hby at_303) (z := (1 : Int32)) rfl rfl ?_
      refine Run.x_goto (q := 308) X9 hx (hb hby at_304) (by decide) (by decide) ?_
      refine Run.retN X9 hx hlk rfl (t := .boolean) hret (by simp) (z' := (1 : Int32)) (by decide) (hb hby at_308) (by decide) (by decide) ?_
      exact ⟨rfl, N9⟩
    · skip
      refine Run.x_ifYes (q := 158) X6 hx (hb hby at_149) ((if0 _ _).trans (feq hc149).2) (by decide) (by decide) ?_
      refine Run.x_iload (q := 160) X6 hx (hb hby at_158) rfl rfl ?_
      refine Run.callS X6 hx hZ e6 (y := (⟨"semblance/JpegCoefficientsReadQuantisationTablesPinLaw", "numberOk", "(I)Z"⟩ : MethodName)) hown (hw _ (List.mem_of_getElem? (i := 55) rfl)) (hw _ (List.mem_of_getElem? (i := 56) rfl)) (hw _ (List.mem_of_getElem? (i := 3) rfl)) (hw _ (List.mem_of_getElem? (i := 57) rfl)) (by decide) (argsL := [(.int y0)]) (rest := []) (c_num l Z a0 hw y0 h6 n0 Z6 ) pd_3 rfl (by rw [hml]; rfl) (W := 0) rfl (by decide) (by decide) (by decide) (by decide) (hb hby at_160) rfl ?_
      intro T10 v10 L10 X10 q10
      obtain ⟨rfl, M10, e10⟩ := q10
      have N10 := Fr.app N6 M10
      show Run p e below s _ _ _ (T10.setTop (mkF m 163 #[.val (.int p1), .val (.int p2), .val (.int p3), .val (.int p4), .val (.int p5), .val (.int ll), .val (.int y0), .val (.int y1), .val (.int y2), .val (.int y3), .val (.int d0), .val (.int d1), .val (.int d2), .val (.int d3), .val (.ref b5), .unset, .unset] [(.int (own_b (own_ok y0)))]))
      by_cases hc163 : (own_b (own_ok y0)) = (0 : Int32)
      · skip
        refine Run.x_ifYes (q := 173) X10 hx (hb hby at_163) ((if0 _ _).trans (teq hc163).1) (by decide) (by decide) ?_
        refine Run.x_iconst (q := 174) X10 hx (hb hby at_173) (z := (0 : Int32)) rfl rfl ?_
        refine Run.x_istore (q := 176) X10 hx #[.val (.int p1), .val (.int p2), .val (.int p3), .val (.int p4), .val (.int p5), .val (.int ll), .val (.int y0), .val (.int y1), .val (.int y2), .val (.int y3), .val (.int d0), .val (.int d1), .val (.int d2), .val (.int d3), .val (.ref b5), .val (.int (0 : Int32)), .unset] (hb hby at_174) rfl rfl ?_
        refine Run.x_goto (q := 282) X10 hx (hb hby at_176) (by decide) (by decide) ?_
        obtain ⟨T11, h11, X11, e11, E11, A11, D11, -, st11⟩ := newO X10 hx hZ hown (hw _ (List.mem_of_getElem? (i := 6) rfl)) (hw _ (List.mem_of_getElem? (i := 7) rfl)) (hw _ (List.mem_of_getElem? (i := 8) rfl)) e10 (g := (mkF m 282 #[.val (.int p1), .val (.int p2), .val (.int p3), .val (.int p4), .val (.int p5), .val (.int ll), .val (.int y0), .val (.int y1), .val (.int y2), .val (.int y3), .val (.int d0), .val (.int d1), .val (.int d2), .val (.int d3), .val (.ref b5), .val (.int (0 : Int32)), .unset] [])) rfl (hb hby at_282) (by decide) (by decide)
        obtain ⟨b11, gg11⟩ : ∃ z, z = h6.size := ⟨_, rfl⟩
        rw [← gg11] at A11 D11 st11
        have g_b11 : n0 ≤ b11 := Nat.le_trans Z6 (Nat.le_of_eq gg11.symm)
        have ne_b5_b11 : b5 ≠ b11 := Nat.ne_of_lt (Nat.lt_of_lt_of_le A_b5.lt (Nat.le_of_eq gg11.symm))
        have Z11 : n0 ≤ h11.size := Nat.le_trans Z6 E11.1
        have E_b11 := A11
        have F_b11_dcTables : Fld Z h11 b11 "semblance/JpegCoefficients" "dcTables" "[Lsemblance/JpegHuffmanTable;" .null := D11 (Or.inr (hw _ (List.mem_of_getElem? (i := 18) rfl))) (ty := (.array (.object "semblance/JpegHuffmanTable"))) (by decide)
        have F_b11_acTables : Fld Z h11 b11 "semblance/JpegCoefficients" "acTables" "[Lsemblance/JpegHuffmanTable;" .null := D11 (Or.inr (hw _ (List.mem_of_getElem? (i := 20) rfl))) (ty := (.array (.object "semblance/JpegHuffmanTable"))) (by decide)
        have F_b11_quantisation : Fld Z h11 b11 "semblance/JpegCoefficients" "quantisation" "[Z" .null := D11 (Or.inr (hw _ (List.mem_of_getElem? (i := 23) rfl))) (ty := (.array .boolean)) (by decide)
        have F_b11_scans : Fld Z h11 b11 "semblance/JpegCoefficients" "scans" "Ljava/util/List;" .null := D11 (Or.inr (hw _ (List.mem_of_getElem? (i := 49) rfl))) (ty := (.object "java/util/List")) (by decide)
        refine Run.st st11 ?_
        show Run p e below s _ _ _ (T11.setTop (mkF m 285 #[.val (.int p1), .val (.int p2), .val (.int p3), .val (.int p4), .val (.int p5), .val (.int ll), .val (.int y0), .val (.int y1), .val (.int y2), .val (.int y3), .val (.int d0), .val (.int d1), .val (.int d2), .val (.int d3), .val (.ref b5), .val (.int (0 : Int32)), .unset] [(.ref b11)]))
        refine Run.x_dup (q := 286) X11 hx (hb hby at_285) rfl rfl ?_
        replace S_DEFAULTCAPACITY_EMPTY_ELEMENTDATA := S_DEFAULTCAPACITY_EMPTY_ELEMENTDATA.ext E11
        refine Run.callC X11 hx hZ e11 (y := (⟨"semblance/JpegCoefficients", "<init>", "()V"⟩ : MethodName)) hown rfl (hw _ (List.mem_of_getElem? (i := 9) rfl)) (hw _ (List.mem_of_getElem? (i := 10) rfl)) (hw _ (List.mem_of_getElem? (i := 8) rfl)) (hw _ (List.mem_of_getElem? (i := 11) rfl)) (by decide) (a := b11) (argsL := []) (rest := [(.ref b11)]) (c_init l Z a0 hw b11 h11 n0 Z11 sd E_b11 F_b11_dcTables F_b11_acTables F_b11_quantisation F_b11_scans S_DEFAULTCAPACITY_EMPTY_ELEMENTDATA g_b11) pd_0 rfl (by rw [hml]; rfl) (W := 1) rfl (by decide) (by decide) (by decide) (by decide) (hb hby at_286) rfl ?_
        intro T12 v12 L12 X12 q12
        obtain ⟨q12, rfl, M12, K12, Fq12, Aq12, sq12⟩ := q12
        have N12 := Fr.app N10 M12
        show Run p e below s _ _ _ (T12.setTop (mkF m 289 #[.val (.int p1), .val (.int p2), .val (.int p3), .val (.int p4), .val (.int p5), .val (.int ll), .val (.int y0), .val (.int y1), .val (.int y2), .val (.int y3), .val (.int d0), .val (.int d1), .val (.int d2), .val (.int d3), .val (.ref b5), .val (.int (0 : Int32)), .unset] [(.ref b11)]))
        replace A_b5 := A_b5.ext E11
        have ne_b5_q12 : b5 ≠ q12 := Nat.ne_of_lt (Nat.lt_of_lt_of_le A_b5.lt sq12)
        have ne_b11_q12 : b11 ≠ q12 := Nat.ne_of_lt (Nat.lt_of_lt_of_le E_b11.lt sq12)
        have g_q12 : n0 ≤ q12 := Nat.le_trans Z11 sq12
        replace S_DEFAULTCAPACITY_EMPTY_ELEMENTDATA := Sta_keep S_DEFAULTCAPACITY_EMPTY_ELEMENTDATA K12 (allS (Exa_ns E_b11) all0)
        have Z12 : n0 ≤ T12.heap.size := Nat.le_trans Z11 K12.1
        refine Run.x_astore (q := 291) X12 hx #[.val (.int p1), .val (.int p2), .val (.int p3), .val (.int p4), .val (.int p5), .val (.int ll), .val (.int y0), .val (.int y1), .val (.int y2), .val (.int y3), .val (.int d0), .val (.int d1), .val (.int d2), .val (.int d3), .val (.ref b5), .val (.int (0 : Int32)), .val (.ref b11)] (hb hby at_289) rfl rfl rfl ?_
        refine Run.x_aload (q := 293) X12 hx (hb hby at_291) rfl rfl rfl ?_
        refine Run.x_aload (q := 295) X12 hx (hb hby at_293) rfl rfl rfl ?_
        replace E_b11 := E_b11.keep K12
        replace A_b5 := A_b5.keep K12 (ninS ne_b5_b11 nin0)
        refine Run.callV X12 hx hZ rfl (y := (⟨"semblance/JpegCoefficients", "readQuantisationTables", "([B)Z"⟩ : MethodName)) (z := (⟨"semblance/JpegCoefficients", "readQuantisationTables", "([B)Z"⟩ : MethodName)) hown (hw _ (List.mem_of_getElem? (i := 50) rfl)) (hw _ (List.mem_of_getElem? (i := 51) rfl)) (notFace_of_selects (args := #[]) (mvT hZ (hw _ (List.mem_of_getElem? (i := 53) rfl)))) (hw _ (List.mem_of_getElem? (i := 53) rfl)) (hw _ (List.mem_of_getElem? (i := 52) rfl)) (hw _ (List.mem_of_getElem? (i := 8) rfl)) (hw _ (List.mem_of_getElem? (i := 54) rfl)) (by decide) (a := b11) E_b11 (argsL := [(.ref b5)]) (rest := []) (c_rd l Z a0 hw b11 b5 T12.heap n0 Z12 q12 ll y0 y1 y2 y3 (((((List.replicate nn (Value.int (0 : Int32))).set 0 (Value.int y0.toInt8.toInt32)).set n1 (Value.int y1.toInt8.toInt32)).set n2 (Value.int y2.toInt8.toInt32)).set n3 (Value.int y3.toInt8.toInt32)) E_b11 Fq12 A_b5 Aq12 g_q12 ne_b5_q12 ne_b11_q12 hlen4 hlt4 hle4 ry0 ry1 ry2 ry3 hq0 hq1 hq2 hq3) pd_2 rfl (by rw [hml]; rfl) (W := 0) rfl (by decide) (by decide) (by decide) (by decide) (hb hby at_295) rfl ?_
        intro T13 v13 L13 X13 q13
        obtain ⟨rfl, M13⟩ := q13
        have N13 := Fr.app N12 M13
        show Run p e below s _ _ _ (T13.setTop (mkF m 298 #[.val (.int p1), .val (.int p2), .val (.int p3), .val (.int p4), .val (.int p5), .val (.int ll), .val (.int y0), .val (.int y1), .val (.int y2), .val (.int y3), .val (.int d0), .val (.int d1), .val (.int d2), .val (.int d3), .val (.ref b5), .val (.int (0 : Int32)), .val (.ref b11)] [(.int (own_b (own_rd ll.toInt 0 [y0, y1, y2, y3])))]))
        refine Run.x_iload (q := 300) X13 hx (hb hby at_298) rfl rfl ?_
        refine Run.x_icmpNo (q := 303) X13 hx (hb hby at_300) (teq (own_b0 (own_rd_no1 (by have q := hc149; rw [eq32] at q; omega) (own_b_no hc163)))).2 rfl ?_
        refine Run.x_iconst (q := 304) X13 hx (hb hby at_303) (z := (1 : Int32)) rfl rfl ?_
        refine Run.x_goto (q := 308) X13 hx (hb hby at_304) (by decide) (by decide) ?_
        refine Run.retN X13 hx hlk rfl (t := .boolean) hret (by simp) (z' := (1 : Int32)) (by decide) (hb hby at_308) (by decide) (by decide) ?_
        exact ⟨rfl, N13⟩
      · skip
        refine Run.x_ifNo (q := 166) X10 hx (hb hby at_163) ((if0 _ _).trans (feq hc163).1) rfl ?_
        refine Run.x_iload (q := 168) X10 hx (hb hby at_166) rfl rfl ?_
        refine Run.x_iload (q := 170) X10 hx (hb hby at_168) rfl rfl ?_
        by_cases hc170 : ll < d0
        · skip
          refine Run.x_icmpNo (q := 173) X10 hx (hb hby at_170) (tlt hc170).2.2.2 rfl ?_
          refine Run.x_iconst (q := 174) X10 hx (hb hby at_173) (z := (0 : Int32)) rfl rfl ?_
          refine Run.x_istore (q := 176) X10 hx #[.val (.int p1), .val (.int p2), .val (.int p3), .val (.int p4), .val (.int p5), .val (.int ll), .val (.int y0), .val (.int y1), .val (.int y2), .val (.int y3), .val (.int d0), .val (.int d1), .val (.int d2), .val (.int d3), .val (.ref b5), .val (.int (0 : Int32)), .unset] (hb hby at_174) rfl rfl ?_
          refine Run.x_goto (q := 282) X10 hx (hb hby at_176) (by decide) (by decide) ?_
          obtain ⟨T14, h14, X14, e14, E14, A14, D14, -, st14⟩ := newO X10 hx hZ hown (hw _ (List.mem_of_getElem? (i := 6) rfl)) (hw _ (List.mem_of_getElem? (i := 7) rfl)) (hw _ (List.mem_of_getElem? (i := 8) rfl)) e10 (g := (mkF m 282 #[.val (.int p1), .val (.int p2), .val (.int p3), .val (.int p4), .val (.int p5), .val (.int ll), .val (.int y0), .val (.int y1), .val (.int y2), .val (.int y3), .val (.int d0), .val (.int d1), .val (.int d2), .val (.int d3), .val (.ref b5), .val (.int (0 : Int32)), .unset] [])) rfl (hb hby at_282) (by decide) (by decide)
          obtain ⟨b14, gg14⟩ : ∃ z, z = h6.size := ⟨_, rfl⟩
          rw [← gg14] at A14 D14 st14
          have g_b14 : n0 ≤ b14 := Nat.le_trans Z6 (Nat.le_of_eq gg14.symm)
          have ne_b5_b14 : b5 ≠ b14 := Nat.ne_of_lt (Nat.lt_of_lt_of_le A_b5.lt (Nat.le_of_eq gg14.symm))
          have Z14 : n0 ≤ h14.size := Nat.le_trans Z6 E14.1
          have E_b14 := A14
          have F_b14_dcTables : Fld Z h14 b14 "semblance/JpegCoefficients" "dcTables" "[Lsemblance/JpegHuffmanTable;" .null := D14 (Or.inr (hw _ (List.mem_of_getElem? (i := 18) rfl))) (ty := (.array (.object "semblance/JpegHuffmanTable"))) (by decide)
          have F_b14_acTables : Fld Z h14 b14 "semblance/JpegCoefficients" "acTables" "[Lsemblance/JpegHuffmanTable;" .null := D14 (Or.inr (hw _ (List.mem_of_getElem? (i := 20) rfl))) (ty := (.array (.object "semblance/JpegHuffmanTable"))) (by decide)
          have F_b14_quantisation : Fld Z h14 b14 "semblance/JpegCoefficients" "quantisation" "[Z" .null := D14 (Or.inr (hw _ (List.mem_of_getElem? (i := 23) rfl))) (ty := (.array .boolean)) (by decide)
          have F_b14_scans : Fld Z h14 b14 "semblance/JpegCoefficients" "scans" "Ljava/util/List;" .null := D14 (Or.inr (hw _ (List.mem_of_getElem? (i := 49) rfl))) (ty := (.object "java/util/List")) (by decide)
          refine Run.st st14 ?_
          show Run p e below s _ _ _ (T14.setTop (mkF m 285 #[.val (.int p1), .val (.int p2), .val (.int p3), .val (.int p4), .val (.int p5), .val (.int ll), .val (.int y0), .val (.int y1), .val (.int y2), .val (.int y3), .val (.int d0), .val (.int d1), .val (.int d2), .val (.int d3), .val (.ref b5), .val (.int (0 : Int32)), .unset] [(.ref b14)]))
          refine Run.x_dup (q := 286) X14 hx (hb hby at_285) rfl rfl ?_
          replace S_DEFAULTCAPACITY_EMPTY_ELEMENTDATA := S_DEFAULTCAPACITY_EMPTY_ELEMENTDATA.ext E14
          refine Run.callC X14 hx hZ e14 (y := (⟨"semblance/JpegCoefficients", "<init>", "()V"⟩ : MethodName)) hown rfl (hw _ (List.mem_of_getElem? (i := 9) rfl)) (hw _ (List.mem_of_getElem? (i := 10) rfl)) (hw _ (List.mem_of_getElem? (i := 8) rfl)) (hw _ (List.mem_of_getElem? (i := 11) rfl)) (by decide) (a := b14) (argsL := []) (rest := [(.ref b14)]) (c_init l Z a0 hw b14 h14 n0 Z14 sd E_b14 F_b14_dcTables F_b14_acTables F_b14_quantisation F_b14_scans S_DEFAULTCAPACITY_EMPTY_ELEMENTDATA g_b14) pd_0 rfl (by rw [hml]; rfl) (W := 1) rfl (by decide) (by decide) (by decide) (by decide) (hb hby at_286) rfl ?_
          intro T15 v15 L15 X15 q15
          obtain ⟨q15, rfl, M15, K15, Fq15, Aq15, sq15⟩ := q15
          have N15 := Fr.app N10 M15
          show Run p e below s _ _ _ (T15.setTop (mkF m 289 #[.val (.int p1), .val (.int p2), .val (.int p3), .val (.int p4), .val (.int p5), .val (.int ll), .val (.int y0), .val (.int y1), .val (.int y2), .val (.int y3), .val (.int d0), .val (.int d1), .val (.int d2), .val (.int d3), .val (.ref b5), .val (.int (0 : Int32)), .unset] [(.ref b14)]))
          replace A_b5 := A_b5.ext E14
          have ne_b5_q15 : b5 ≠ q15 := Nat.ne_of_lt (Nat.lt_of_lt_of_le A_b5.lt sq15)
          have ne_b14_q15 : b14 ≠ q15 := Nat.ne_of_lt (Nat.lt_of_lt_of_le E_b14.lt sq15)
          have g_q15 : n0 ≤ q15 := Nat.le_trans Z14 sq15
          replace S_DEFAULTCAPACITY_EMPTY_ELEMENTDATA := Sta_keep S_DEFAULTCAPACITY_EMPTY_ELEMENTDATA K15 (allS (Exa_ns E_b14) all0)
          have Z15 : n0 ≤ T15.heap.size := Nat.le_trans Z14 K15.1
          refine Run.x_astore (q := 291) X15 hx #[.val (.int p1), .val (.int p2), .val (.int p3), .val (.int p4), .val (.int p5), .val (.int ll), .val (.int y0), .val (.int y1), .val (.int y2), .val (.int y3), .val (.int d0), .val (.int d1), .val (.int d2), .val (.int d3), .val (.ref b5), .val (.int (0 : Int32)), .val (.ref b14)] (hb hby at_289) rfl rfl rfl ?_
          refine Run.x_aload (q := 293) X15 hx (hb hby at_291) rfl rfl rfl ?_
          refine Run.x_aload (q := 295) X15 hx (hb hby at_293) rfl rfl rfl ?_
          replace E_b14 := E_b14.keep K15
          replace A_b5 := A_b5.keep K15 (ninS ne_b5_b14 nin0)
          refine Run.callV X15 hx hZ rfl (y := (⟨"semblance/JpegCoefficients", "readQuantisationTables", "([B)Z"⟩ : MethodName)) (z := (⟨"semblance/JpegCoefficients", "readQuantisationTables", "([B)Z"⟩ : MethodName)) hown (hw _ (List.mem_of_getElem? (i := 50) rfl)) (hw _ (List.mem_of_getElem? (i := 51) rfl)) (notFace_of_selects (args := #[]) (mvT hZ (hw _ (List.mem_of_getElem? (i := 53) rfl)))) (hw _ (List.mem_of_getElem? (i := 53) rfl)) (hw _ (List.mem_of_getElem? (i := 52) rfl)) (hw _ (List.mem_of_getElem? (i := 8) rfl)) (hw _ (List.mem_of_getElem? (i := 54) rfl)) (by decide) (a := b14) E_b14 (argsL := [(.ref b5)]) (rest := []) (c_rd l Z a0 hw b14 b5 T15.heap n0 Z15 q15 ll y0 y1 y2 y3 (((((List.replicate nn (Value.int (0 : Int32))).set 0 (Value.int y0.toInt8.toInt32)).set n1 (Value.int y1.toInt8.toInt32)).set n2 (Value.int y2.toInt8.toInt32)).set n3 (Value.int y3.toInt8.toInt32)) E_b14 Fq15 A_b5 Aq15 g_q15 ne_b5_q15 ne_b14_q15 hlen4 hlt4 hle4 ry0 ry1 ry2 ry3 hq0 hq1 hq2 hq3) pd_2 rfl (by rw [hml]; rfl) (W := 0) rfl (by decide) (by decide) (by decide) (by decide) (hb hby at_295) rfl ?_
          intro T16 v16 L16 X16 q16
          obtain ⟨rfl, M16⟩ := q16
          have N16 := Fr.app N15 M16
          show Run p e below s _ _ _ (T16.setTop (mkF m 298 #[.val (.int p1), .val (.int p2), .val (.int p3), .val (.int p4), .val (.int p5), .val (.int ll), .val (.int y0), .val (.int y1), .val (.int y2), .val (.int y3), .val (.int d0), .val (.int d1), .val (.int d2), .val (.int d3), .val (.ref b5), .val (.int (0 : Int32)), .val (.ref b14)] [(.int (own_b (own_rd ll.toInt 0 [y0, y1, y2, y3])))]))
          refine Run.x_iload (q := 300) X16 hx (hb hby at_298) rfl rfl ?_
          refine Run.x_icmpNo (q := 303) X16 hx (hb hby at_300) (teq (own_b0 (own_rd_no2 (by have q := hc149; rw [eq32] at q; omega) (by omega : (0 : Int) + 1 + own_sz y0 = d0.toInt) (by have q := hc170; rw [lt32] at q; omega)))).2 rfl ?_
          refine Run.x_iconst (q := 304) X16 hx (hb hby at_303) (z := (1 : Int32)) rfl rfl ?_
          refine Run.x_goto (q := 308) X16 hx (hb hby at_304) (by decide) (by decide) ?_
          refine Run.retN X16 hx hlk rfl (t := .boolean) hret (by simp) (z' := (1 : Int32)) (by decide) (hb hby at_308) (by decide) (by decide) ?_
          exact ⟨rfl, N16⟩
        · skip
          refine Run.x_icmpYes (q := 179) X10 hx (hb hby at_170) (flt hc170).2.2.2 (by decide) (by decide) ?_
          refine Run.x_iload (q := 181) X10 hx (hb hby at_179) rfl rfl ?_
          refine Run.x_iload (q := 183) X10 hx (hb hby at_181) rfl rfl ?_
          by_cases hc183 : d0 = ll
          · skip
            refine Run.x_icmpNo (q := 186) X10 hx (hb hby at_183) (teq hc183).2 rfl ?_
            refine Run.x_iconst (q := 187) X10 hx (hb hby at_186) (z := (1 : Int32)) rfl rfl ?_
            refine Run.x_istore (q := 189) X10 hx #[.val (.int p1), .val (.int p2), .val (.int p3), .val (.int p4), .val (.int p5), .val (.int ll), .val (.int y0), .val (.int y1), .val (.int y2), .val (.int y3), .val (.int d0), .val (.int d1), .val (.int d2), .val (.int d3), .val (.ref b5), .val (.int (1 : Int32)), .unset] (hb hby at_187) rfl rfl ?_
            refine Run.x_goto (q := 282) X10 hx (hb hby at_189) (by decide) (by decide) ?_
            obtain ⟨T17, h17, X17, e17, E17, A17, D17, -, st17⟩ := newO X10 hx hZ hown (hw _ (List.mem_of_getElem? (i := 6) rfl)) (hw _ (List.mem_of_getElem? (i := 7) rfl)) (hw _ (List.mem_of_getElem? (i := 8) rfl)) e10 (g := (mkF m 282 #[.val (.int p1), .val (.int p2), .val (.int p3), .val (.int p4), .val (.int p5), .val (.int ll), .val (.int y0), .val (.int y1), .val (.int y2), .val (.int y3), .val (.int d0), .val (.int d1), .val (.int d2), .val (.int d3), .val (.ref b5), .val (.int (1 : Int32)), .unset] [])) rfl (hb hby at_282) (by decide) (by decide)
            obtain ⟨b17, gg17⟩ : ∃ z, z = h6.size := ⟨_, rfl⟩
            rw [← gg17] at A17 D17 st17
            have g_b17 : n0 ≤ b17 := Nat.le_trans Z6 (Nat.le_of_eq gg17.symm)
            have ne_b5_b17 : b5 ≠ b17 := Nat.ne_of_lt (Nat.lt_of_lt_of_le A_b5.lt (Nat.le_of_eq gg17.symm))
            have Z17 : n0 ≤ h17.size := Nat.le_trans Z6 E17.1
            have E_b17 := A17
            have F_b17_dcTables : Fld Z h17 b17 "semblance/JpegCoefficients" "dcTables" "[Lsemblance/JpegHuffmanTable;" .null := D17 (Or.inr (hw _ (List.mem_of_getElem? (i := 18) rfl))) (ty := (.array (.object "semblance/JpegHuffmanTable"))) (by decide)
            have F_b17_acTables : Fld Z h17 b17 "semblance/JpegCoefficients" "acTables" "[Lsemblance/JpegHuffmanTable;" .null := D17 (Or.inr (hw _ (List.mem_of_getElem? (i := 20) rfl))) (ty := (.array (.object "semblance/JpegHuffmanTable"))) (by decide)
            have F_b17_quantisation : Fld Z h17 b17 "semblance/JpegCoefficients" "quantisation" "[Z" .null := D17 (Or.inr (hw _ (List.mem_of_getElem? (i := 23) rfl))) (ty := (.array .boolean)) (by decide)
            have F_b17_scans : Fld Z h17 b17 "semblance/JpegCoefficients" "scans" "Ljava/util/List;" .null := D17 (Or.inr (hw _ (List.mem_of_getElem? (i := 49) rfl))) (ty := (.object "java/util/List")) (by decide)
            refine Run.st st17 ?_
            show Run p e below s _ _ _ (T17.setTop (mkF m 285 #[.val (.int p1), .val (.int p2), .val (.int p3), .val (.int p4), .val (.int p5), .val (.int ll), .val (.int y0), .val (.int y1), .val (.int y2), .val (.int y3), .val (.int d0), .val (.int d1), .val (.int d2), .val (.int d3), .val (.ref b5), .val (.int (1 : Int32)), .unset] [(.ref b17)]))
            refine Run.x_dup (q := 286) X17 hx (hb hby at_285) rfl rfl ?_
            replace S_DEFAULTCAPACITY_EMPTY_ELEMENTDATA := S_DEFAULTCAPACITY_EMPTY_ELEMENTDATA.ext E17
            refine Run.callC X17 hx hZ e17 (y := (⟨"semblance/JpegCoefficients", "<init>", "()V"⟩ : MethodName)) hown rfl (hw _ (List.mem_of_getElem? (i := 9) rfl)) (hw _ (List.mem_of_getElem? (i := 10) rfl)) (hw _ (List.mem_of_getElem? (i := 8) rfl)) (hw _ (List.mem_of_getElem? (i := 11) rfl)) (by decide) (a := b17) (argsL := []) (rest := [(.ref b17)]) (c_init l Z a0 hw b17 h17 n0 Z17 sd E_b17 F_b17_dcTables F_b17_acTables F_b17_quantisation F_b17_scans S_DEFAULTCAPACITY_EMPTY_ELEMENTDATA g_b17) pd_0 rfl (by rw [hml]; rfl) (W := 1) rfl (by decide) (by decide) (by decide) (by decide) (hb hby at_286) rfl ?_
            intro T18 v18 L18 X18 q18
            obtain ⟨q18, rfl, M18, K18, Fq18, Aq18, sq18⟩ := q18
            have N18 := Fr.app N10 M18
            show Run p e below s _ _ _ (T18.setTop (mkF m 289 #[.val (.int p1), .val (.int p2), .val (.int p3), .val (.int p4), .val (.int p5), .val (.int ll), .val (.int y0), .val (.int y1), .val (.int y2), .val (.int y3), .val (.int d0), .val (.int d1), .val (.int d2), .val (.int d3), .val (.ref b5), .val (.int (1 : Int32)), .unset] [(.ref b17)]))
            replace A_b5 := A_b5.ext E17
            have ne_b5_q18 : b5 ≠ q18 := Nat.ne_of_lt (Nat.lt_of_lt_of_le A_b5.lt sq18)
            have ne_b17_q18 : b17 ≠ q18 := Nat.ne_of_lt (Nat.lt_of_lt_of_le E_b17.lt sq18)
            have g_q18 : n0 ≤ q18 := Nat.le_trans Z17 sq18
            replace S_DEFAULTCAPACITY_EMPTY_ELEMENTDATA := Sta_keep S_DEFAULTCAPACITY_EMPTY_ELEMENTDATA K18 (allS (Exa_ns E_b17) all0)
            have Z18 : n0 ≤ T18.heap.size := Nat.le_trans Z17 K18.1
            refine Run.x_astore (q := 291) X18 hx #[.val (.int p1), .val (.int p2), .val (.int p3), .val (.int p4), .val (.int p5), .val (.int ll), .val (.int y0), .val (.int y1), .val (.int y2), .val (.int y3), .val (.int d0), .val (.int d1), .val (.int d2), .val (.int d3), .val (.ref b5), .val (.int (1 : Int32)), .val (.ref b17)] (hb hby at_289) rfl rfl rfl ?_
            refine Run.x_aload (q := 293) X18 hx (hb hby at_291) rfl rfl rfl ?_
            refine Run.x_aload (q := 295) X18 hx (hb hby at_293) rfl rfl rfl ?_
            replace E_b17 := E_b17.keep K18
            replace A_b5 := A_b5.keep K18 (ninS ne_b5_b17 nin0)
            refine Run.callV X18 hx hZ rfl (y := (⟨"semblance/JpegCoefficients", "readQuantisationTables", "([B)Z"⟩ : MethodName)) (z := (⟨"semblance/JpegCoefficients", "readQuantisationTables", "([B)Z"⟩ : MethodName)) hown (hw _ (List.mem_of_getElem? (i := 50) rfl)) (hw _ (List.mem_of_getElem? (i := 51) rfl)) (notFace_of_selects (args := #[]) (mvT hZ (hw _ (List.mem_of_getElem? (i := 53) rfl)))) (hw _ (List.mem_of_getElem? (i := 53) rfl)) (hw _ (List.mem_of_getElem? (i := 52) rfl)) (hw _ (List.mem_of_getElem? (i := 8) rfl)) (hw _ (List.mem_of_getElem? (i := 54) rfl)) (by decide) (a := b17) E_b17 (argsL := [(.ref b5)]) (rest := []) (c_rd l Z a0 hw b17 b5 T18.heap n0 Z18 q18 ll y0 y1 y2 y3 (((((List.replicate nn (Value.int (0 : Int32))).set 0 (Value.int y0.toInt8.toInt32)).set n1 (Value.int y1.toInt8.toInt32)).set n2 (Value.int y2.toInt8.toInt32)).set n3 (Value.int y3.toInt8.toInt32)) E_b17 Fq18 A_b5 Aq18 g_q18 ne_b5_q18 ne_b17_q18 hlen4 hlt4 hle4 ry0 ry1 ry2 ry3 hq0 hq1 hq2 hq3) pd_2 rfl (by rw [hml]; rfl) (W := 0) rfl (by decide) (by decide) (by decide) (by decide) (hb hby at_295) rfl ?_
            intro T19 v19 L19 X19 q19
            obtain ⟨rfl, M19⟩ := q19
            have N19 := Fr.app N18 M19
            show Run p e below s _ _ _ (T19.setTop (mkF m 298 #[.val (.int p1), .val (.int p2), .val (.int p3), .val (.int p4), .val (.int p5), .val (.int ll), .val (.int y0), .val (.int y1), .val (.int y2), .val (.int y3), .val (.int d0), .val (.int d1), .val (.int d2), .val (.int d3), .val (.ref b5), .val (.int (1 : Int32)), .val (.ref b17)] [(.int (own_b (own_rd ll.toInt 0 [y0, y1, y2, y3])))]))
            refine Run.x_iload (q := 300) X19 hx (hb hby at_298) rfl rfl ?_
            refine Run.x_icmpNo (q := 303) X19 hx (hb hby at_300) (teq (own_b1 (own_rd_step (own_b_yes hc163) (by omega : (0 : Int) + 1 + own_sz y0 = d0.toInt) (by have q := hc170; rw [lt32] at q; omega) (own_rd_eq (by have q := hc183; rw [eq32] at q; omega))))).2 rfl ?_
            refine Run.x_iconst (q := 304) X19 hx (hb hby at_303) (z := (1 : Int32)) rfl rfl ?_
            refine Run.x_goto (q := 308) X19 hx (hb hby at_304) (by decide) (by decide) ?_
            refine Run.retN X19 hx hlk rfl (t := .boolean) hret (by simp) (z' := (1 : Int32)) (by decide) (hb hby at_308) (by decide) (by decide) ?_
            exact ⟨rfl, N19⟩
          · skip
            refine Run.x_icmpYes (q := 192) X10 hx (hb hby at_183) (feq hc183).2 (by decide) (by decide) ?_
            refine Run.x_iload (q := 194) X10 hx (hb hby at_192) rfl rfl ?_
            refine Run.callS X10 hx hZ e10 (y := (⟨"semblance/JpegCoefficientsReadQuantisationTablesPinLaw", "numberOk", "(I)Z"⟩ : MethodName)) hown (hw _ (List.mem_of_getElem? (i := 55) rfl)) (hw _ (List.mem_of_getElem? (i := 56) rfl)) (hw _ (List.mem_of_getElem? (i := 3) rfl)) (hw _ (List.mem_of_getElem? (i := 57) rfl)) (by decide) (argsL := [(.int y1)]) (rest := []) (c_num l Z a0 hw y1 h6 n0 Z6 ) pd_3 rfl (by rw [hml]; rfl) (W := 0) rfl (by decide) (by decide) (by decide) (by decide) (hb hby at_194) rfl ?_
            intro T20 v20 L20 X20 q20
            obtain ⟨rfl, M20, e20⟩ := q20
            have N20 := Fr.app N10 M20
            show Run p e below s _ _ _ (T20.setTop (mkF m 197 #[.val (.int p1), .val (.int p2), .val (.int p3), .val (.int p4), .val (.int p5), .val (.int ll), .val (.int y0), .val (.int y1), .val (.int y2), .val (.int y3), .val (.int d0), .val (.int d1), .val (.int d2), .val (.int d3), .val (.ref b5), .unset, .unset] [(.int (own_b (own_ok y1)))]))
            by_cases hc197 : (own_b (own_ok y1)) = (0 : Int32)
            · skip
              refine Run.x_ifYes (q := 207) X20 hx (hb hby at_197) ((if0 _ _).trans (teq hc197).1) (by decide) (by decide) ?_
              refine Run.x_iconst (q := 208) X20 hx (hb hby at_207) (z := (0 : Int32)) rfl rfl ?_
              refine Run.x_istore (q := 210) X20 hx #[.val (.int p1), .val (.int p2), .val (.int p3), .val (.int p4), .val (.int p5), .val (.int ll), .val (.int y0), .val (.int y1), .val (.int y2), .val (.int y3), .val (.int d0), .val (.int d1), .val (.int d2), .val (.int d3), .val (.ref b5), .val (.int (0 : Int32)), .unset] (hb hby at_208) rfl rfl ?_
              refine Run.x_goto (q := 282) X20 hx (hb hby at_210) (by decide) (by decide) ?_
              obtain ⟨T21, h21, X21, e21, E21, A21, D21, -, st21⟩ := newO X20 hx hZ hown (hw _ (List.mem_of_getElem? (i := 6) rfl)) (hw _ (List.mem_of_getElem? (i := 7) rfl)) (hw _ (List.mem_of_getElem? (i := 8) rfl)) e20 (g := (mkF m 282 #[.val (.int p1), .val (.int p2), .val (.int p3), .val (.int p4), .val (.int p5), .val (.int ll), .val (.int y0), .val (.int y1), .val (.int y2), .val (.int y3), .val (.int d0), .val (.int d1), .val (.int d2), .val (.int d3), .val (.ref b5), .val (.int (0 : Int32)), .unset] [])) rfl (hb hby at_282) (by decide) (by decide)
              obtain ⟨b21, gg21⟩ : ∃ z, z = h6.size := ⟨_, rfl⟩
              rw [← gg21] at A21 D21 st21
              have g_b21 : n0 ≤ b21 := Nat.le_trans Z6 (Nat.le_of_eq gg21.symm)
              have ne_b5_b21 : b5 ≠ b21 := Nat.ne_of_lt (Nat.lt_of_lt_of_le A_b5.lt (Nat.le_of_eq gg21.symm))
              have Z21 : n0 ≤ h21.size := Nat.le_trans Z6 E21.1
              have E_b21 := A21
              have F_b21_dcTables : Fld Z h21 b21 "semblance/JpegCoefficients" "dcTables" "[Lsemblance/JpegHuffmanTable;" .null := D21 (Or.inr (hw _ (List.mem_of_getElem? (i := 18) rfl))) (ty := (.array (.object "semblance/JpegHuffmanTable"))) (by decide)
              have F_b21_acTables : Fld Z h21 b21 "semblance/JpegCoefficients" "acTables" "[Lsemblance/JpegHuffmanTable;" .null := D21 (Or.inr (hw _ (List.mem_of_getElem? (i := 20) rfl))) (ty := (.array (.object "semblance/JpegHuffmanTable"))) (by decide)
              have F_b21_quantisation : Fld Z h21 b21 "semblance/JpegCoefficients" "quantisation" "[Z" .null := D21 (Or.inr (hw _ (List.mem_of_getElem? (i := 23) rfl))) (ty := (.array .boolean)) (by decide)
              have F_b21_scans : Fld Z h21 b21 "semblance/JpegCoefficients" "scans" "Ljava/util/List;" .null := D21 (Or.inr (hw _ (List.mem_of_getElem? (i := 49) rfl))) (ty := (.object "java/util/List")) (by decide)
              refine Run.st st21 ?_
              show Run p e below s _ _ _ (T21.setTop (mkF m 285 #[.val (.int p1), .val (.int p2), .val (.int p3), .val (.int p4), .val (.int p5), .val (.int ll), .val (.int y0), .val (.int y1), .val (.int y2), .val (.int y3), .val (.int d0), .val (.int d1), .val (.int d2), .val (.int d3), .val (.ref b5), .val (.int (0 : Int32)), .unset] [(.ref b21)]))
              refine Run.x_dup (q := 286) X21 hx (hb hby at_285) rfl rfl ?_
              replace S_DEFAULTCAPACITY_EMPTY_ELEMENTDATA := S_DEFAULTCAPACITY_EMPTY_ELEMENTDATA.ext E21
              refine Run.callC X21 hx hZ e21 (y := (⟨"semblance/JpegCoefficients", "<init>", "()V"⟩ : MethodName)) hown rfl (hw _ (List.mem_of_getElem? (i := 9) rfl)) (hw _ (List.mem_of_getElem? (i := 10) rfl)) (hw _ (List.mem_of_getElem? (i := 8) rfl)) (hw _ (List.mem_of_getElem? (i := 11) rfl)) (by decide) (a := b21) (argsL := []) (rest := [(.ref b21)]) (c_init l Z a0 hw b21 h21 n0 Z21 sd E_b21 F_b21_dcTables F_b21_acTables F_b21_quantisation F_b21_scans S_DEFAULTCAPACITY_EMPTY_ELEMENTDATA g_b21) pd_0 rfl (by rw [hml]; rfl) (W := 1) rfl (by decide) (by decide) (by decide) (by decide) (hb hby at_286) rfl ?_
              intro T22 v22 L22 X22 q22
              obtain ⟨q22, rfl, M22, K22, Fq22, Aq22, sq22⟩ := q22
              have N22 := Fr.app N20 M22
              show Run p e below s _ _ _ (T22.setTop (mkF m 289 #[.val (.int p1), .val (.int p2), .val (.int p3), .val (.int p4), .val (.int p5), .val (.int ll), .val (.int y0), .val (.int y1), .val (.int y2), .val (.int y3), .val (.int d0), .val (.int d1), .val (.int d2), .val (.int d3), .val (.ref b5), .val (.int (0 : Int32)), .unset] [(.ref b21)]))
              replace A_b5 := A_b5.ext E21
              have ne_b5_q22 : b5 ≠ q22 := Nat.ne_of_lt (Nat.lt_of_lt_of_le A_b5.lt sq22)
              have ne_b21_q22 : b21 ≠ q22 := Nat.ne_of_lt (Nat.lt_of_lt_of_le E_b21.lt sq22)
              have g_q22 : n0 ≤ q22 := Nat.le_trans Z21 sq22
              replace S_DEFAULTCAPACITY_EMPTY_ELEMENTDATA := Sta_keep S_DEFAULTCAPACITY_EMPTY_ELEMENTDATA K22 (allS (Exa_ns E_b21) all0)
              have Z22 : n0 ≤ T22.heap.size := Nat.le_trans Z21 K22.1
              refine Run.x_astore (q := 291) X22 hx #[.val (.int p1), .val (.int p2), .val (.int p3), .val (.int p4), .val (.int p5), .val (.int ll), .val (.int y0), .val (.int y1), .val (.int y2), .val (.int y3), .val (.int d0), .val (.int d1), .val (.int d2), .val (.int d3), .val (.ref b5), .val (.int (0 : Int32)), .val (.ref b21)] (hb hby at_289) rfl rfl rfl ?_
              refine Run.x_aload (q := 293) X22 hx (hb hby at_291) rfl rfl rfl ?_
              refine Run.x_aload (q := 295) X22 hx (hb hby at_293) rfl rfl rfl ?_
              replace E_b21 := E_b21.keep K22
              replace A_b5 := A_b5.keep K22 (ninS ne_b5_b21 nin0)
              refine Run.callV X22 hx hZ rfl (y := (⟨"semblance/JpegCoefficients", "readQuantisationTables", "([B)Z"⟩ : MethodName)) (z := (⟨"semblance/JpegCoefficients", "readQuantisationTables", "([B)Z"⟩ : MethodName)) hown (hw _ (List.mem_of_getElem? (i := 50) rfl)) (hw _ (List.mem_of_getElem? (i := 51) rfl)) (notFace_of_selects (args := #[]) (mvT hZ (hw _ (List.mem_of_getElem? (i := 53) rfl)))) (hw _ (List.mem_of_getElem? (i := 53) rfl)) (hw _ (List.mem_of_getElem? (i := 52) rfl)) (hw _ (List.mem_of_getElem? (i := 8) rfl)) (hw _ (List.mem_of_getElem? (i := 54) rfl)) (by decide) (a := b21) E_b21 (argsL := [(.ref b5)]) (rest := []) (c_rd l Z a0 hw b21 b5 T22.heap n0 Z22 q22 ll y0 y1 y2 y3 (((((List.replicate nn (Value.int (0 : Int32))).set 0 (Value.int y0.toInt8.toInt32)).set n1 (Value.int y1.toInt8.toInt32)).set n2 (Value.int y2.toInt8.toInt32)).set n3 (Value.int y3.toInt8.toInt32)) E_b21 Fq22 A_b5 Aq22 g_q22 ne_b5_q22 ne_b21_q22 hlen4 hlt4 hle4 ry0 ry1 ry2 ry3 hq0 hq1 hq2 hq3) pd_2 rfl (by rw [hml]; rfl) (W := 0) rfl (by decide) (by decide) (by decide) (by decide) (hb hby at_295) rfl ?_
              intro T23 v23 L23 X23 q23
              obtain ⟨rfl, M23⟩ := q23
              have N23 := Fr.app N22 M23
              show Run p e below s _ _ _ (T23.setTop (mkF m 298 #[.val (.int p1), .val (.int p2), .val (.int p3), .val (.int p4), .val (.int p5), .val (.int ll), .val (.int y0), .val (.int y1), .val (.int y2), .val (.int y3), .val (.int d0), .val (.int d1), .val (.int d2), .val (.int d3), .val (.ref b5), .val (.int (0 : Int32)), .val (.ref b21)] [(.int (own_b (own_rd ll.toInt 0 [y0, y1, y2, y3])))]))
              refine Run.x_iload (q := 300) X23 hx (hb hby at_298) rfl rfl ?_
              refine Run.x_icmpNo (q := 303) X23 hx (hb hby at_300) (teq (own_b0 (own_rd_bk (by have q := hc149; rw [eq32] at q; omega) (by omega : (0 : Int) + 1 + own_sz y0 = d0.toInt) (own_rd_no1 (by have q := hc183; rw [eq32] at q; omega) (own_b_no hc197))))).2 rfl ?_
              refine Run.x_iconst (q := 304) X23 hx (hb hby at_303) (z := (1 : Int32)) rfl rfl ?_
              refine Run.x_goto (q := 308) X23 hx (hb hby at_304) (by decide) (by decide) ?_
              refine Run.retN X23 hx hlk rfl (t := .boolean) hret (by simp) (z' := (1 : Int32)) (by decide) (hb hby at_308) (by decide) (by decide) ?_
              exact ⟨rfl, N23⟩
            · skip
              refine Run.x_ifNo (q := 200) X20 hx (hb hby at_197) ((if0 _ _).trans (feq hc197).1) rfl ?_
              refine Run.x_iload (q := 202) X20 hx (hb hby at_200) rfl rfl ?_
              refine Run.x_iload (q := 204) X20 hx (hb hby at_202) rfl rfl ?_
              by_cases hc204 : ll < d1
              · skip
                refine Run.x_icmpNo (q := 207) X20 hx (hb hby at_204) (tlt hc204).2.2.2 rfl ?_
                refine Run.x_iconst (q := 208) X20 hx (hb hby at_207) (z := (0 : Int32)) rfl rfl ?_
                refine Run.x_istore (q := 210) X20 hx #[.val (.int p1), .val (.int p2), .val (.int p3), .val (.int p4), .val (.int p5), .val (.int ll), .val (.int y0), .val (.int y1), .val (.int y2), .val (.int y3), .val (.int d0), .val (.int d1), .val (.int d2), .val (.int d3), .val (.ref b5), .val (.int (0 : Int32)), .unset] (hb hby at_208) rfl rfl ?_
                refine Run.x_goto (q := 282) X20 hx (hb hby at_210) (by decide) (by decide) ?_
                obtain ⟨T24, h24, X24, e24, E24, A24, D24, -, st24⟩ := newO X20 hx hZ hown (hw _ (List.mem_of_getElem? (i := 6) rfl)) (hw _ (List.mem_of_getElem? (i := 7) rfl)) (hw _ (List.mem_of_getElem? (i := 8) rfl)) e20 (g := (mkF m 282 #[.val (.int p1), .val (.int p2), .val (.int p3), .val (.int p4), .val (.int p5), .val (.int ll), .val (.int y0), .val (.int y1), .val (.int y2), .val (.int y3), .val (.int d0), .val (.int d1), .val (.int d2), .val (.int d3), .val (.ref b5), .val (.int (0 : Int32)), .unset] [])) rfl (hb hby at_282) (by decide) (by decide)
                obtain ⟨b24, gg24⟩ : ∃ z, z = h6.size := ⟨_, rfl⟩
                rw [← gg24] at A24 D24 st24
                have g_b24 : n0 ≤ b24 := Nat.le_trans Z6 (Nat.le_of_eq gg24.symm)
                have ne_b5_b24 : b5 ≠ b24 := Nat.ne_of_lt (Nat.lt_of_lt_of_le A_b5.lt (Nat.le_of_eq gg24.symm))
                have Z24 : n0 ≤ h24.size := Nat.le_trans Z6 E24.1
                have E_b24 := A24
                have F_b24_dcTables : Fld Z h24 b24 "semblance/JpegCoefficients" "dcTables" "[Lsemblance/JpegHuffmanTable;" .null := D24 (Or.inr (hw _ (List.mem_of_getElem? (i := 18) rfl))) (ty := (.array (.object "semblance/JpegHuffmanTable"))) (by decide)
                have F_b24_acTables : Fld Z h24 b24 "semblance/JpegCoefficients" "acTables" "[Lsemblance/JpegHuffmanTable;" .null := D24 (Or.inr (hw _ (List.mem_of_getElem? (i := 20) rfl))) (ty := (.array (.object "semblance/JpegHuffmanTable"))) (by decide)
                have F_b24_quantisation : Fld Z h24 b24 "semblance/JpegCoefficients" "quantisation" "[Z" .null := D24 (Or.inr (hw _ (List.mem_of_getElem? (i := 23) rfl))) (ty := (.array .boolean)) (by decide)
                have F_b24_scans : Fld Z h24 b24 "semblance/JpegCoefficients" "scans" "Ljava/util/List;" .null := D24 (Or.inr (hw _ (List.mem_of_getElem? (i := 49) rfl))) (ty := (.object "java/util/List")) (by decide)
                refine Run.st st24 ?_
                show Run p e below s _ _ _ (T24.setTop (mkF m 285 #[.val (.int p1), .val (.int p2), .val (.int p3), .val (.int p4), .val (.int p5), .val (.int ll), .val (.int y0), .val (.int y1), .val (.int y2), .val (.int y3), .val (.int d0), .val (.int d1), .val (.int d2), .val (.int d3), .val (.ref b5), .val (.int (0 : Int32)), .unset] [(.ref b24)]))
                refine Run.x_dup (q := 286) X24 hx (hb hby at_285) rfl rfl ?_
                replace S_DEFAULTCAPACITY_EMPTY_ELEMENTDATA := S_DEFAULTCAPACITY_EMPTY_ELEMENTDATA.ext E24
                refine Run.callC X24 hx hZ e24 (y := (⟨"semblance/JpegCoefficients", "<init>", "()V"⟩ : MethodName)) hown rfl (hw _ (List.mem_of_getElem? (i := 9) rfl)) (hw _ (List.mem_of_getElem? (i := 10) rfl)) (hw _ (List.mem_of_getElem? (i := 8) rfl)) (hw _ (List.mem_of_getElem? (i := 11) rfl)) (by decide) (a := b24) (argsL := []) (rest := [(.ref b24)]) (c_init l Z a0 hw b24 h24 n0 Z24 sd E_b24 F_b24_dcTables F_b24_acTables F_b24_quantisation F_b24_scans S_DEFAULTCAPACITY_EMPTY_ELEMENTDATA g_b24) pd_0 rfl (by rw [hml]; rfl) (W := 1) rfl (by decide) (by decide) (by decide) (by decide) (hb hby at_286) rfl ?_
                intro T25 v25 L25 X25 q25
                obtain ⟨q25, rfl, M25, K25, Fq25, Aq25, sq25⟩ := q25
                have N25 := Fr.app N20 M25
                show Run p e below s _ _ _ (T25.setTop (mkF m 289 #[.val (.int p1), .val (.int p2), .val (.int p3), .val (.int p4), .val (.int p5), .val (.int ll), .val (.int y0), .val (.int y1), .val (.int y2), .val (.int y3), .val (.int d0), .val (.int d1), .val (.int d2), .val (.int d3), .val (.ref b5), .val (.int (0 : Int32)), .unset] [(.ref b24)]))
                replace A_b5 := A_b5.ext E24
                have ne_b5_q25 : b5 ≠ q25 := Nat.ne_of_lt (Nat.lt_of_lt_of_le A_b5.lt sq25)
                have ne_b24_q25 : b24 ≠ q25 := Nat.ne_of_lt (Nat.lt_of_lt_of_le E_b24.lt sq25)
                have g_q25 : n0 ≤ q25 := Nat.le_trans Z24 sq25
                replace S_DEFAULTCAPACITY_EMPTY_ELEMENTDATA := Sta_keep S_DEFAULTCAPACITY_EMPTY_ELEMENTDATA K25 (allS (Exa_ns E_b24) all0)
                have Z25 : n0 ≤ T25.heap.size := Nat.le_trans Z24 K25.1
                refine Run.x_astore (q := 291) X25 hx #[.val (.int p1), .val (.int p2), .val (.int p3), .val (.int p4), .val (.int p5), .val (.int ll), .val (.int y0), .val (.int y1), .val (.int y2), .val (.int y3), .val (.int d0), .val (.int d1), .val (.int d2), .val (.int d3), .val (.ref b5), .val (.int (0 : Int32)), .val (.ref b24)] (hb hby at_289) rfl rfl rfl ?_
                refine Run.x_aload (q := 293) X25 hx (hb hby at_291) rfl rfl rfl ?_
                refine Run.x_aload (q := 295) X25 hx (hb hby at_293) rfl rfl rfl ?_
                replace E_b24 := E_b24.keep K25
                replace A_b5 := A_b5.keep K25 (ninS ne_b5_b24 nin0)
                refine Run.callV X25 hx hZ rfl (y := (⟨"semblance/JpegCoefficients", "readQuantisationTables", "([B)Z"⟩ : MethodName)) (z := (⟨"semblance/JpegCoefficients", "readQuantisationTables", "([B)Z"⟩ : MethodName)) hown (hw _ (List.mem_of_getElem? (i := 50) rfl)) (hw _ (List.mem_of_getElem? (i := 51) rfl)) (notFace_of_selects (args := #[]) (mvT hZ (hw _ (List.mem_of_getElem? (i := 53) rfl)))) (hw _ (List.mem_of_getElem? (i := 53) rfl)) (hw _ (List.mem_of_getElem? (i := 52) rfl)) (hw _ (List.mem_of_getElem? (i := 8) rfl)) (hw _ (List.mem_of_getElem? (i := 54) rfl)) (by decide) (a := b24) E_b24 (argsL := [(.ref b5)]) (rest := []) (c_rd l Z a0 hw b24 b5 T25.heap n0 Z25 q25 ll y0 y1 y2 y3 (((((List.replicate nn (Value.int (0 : Int32))).set 0 (Value.int y0.toInt8.toInt32)).set n1 (Value.int y1.toInt8.toInt32)).set n2 (Value.int y2.toInt8.toInt32)).set n3 (Value.int y3.toInt8.toInt32)) E_b24 Fq25 A_b5 Aq25 g_q25 ne_b5_q25 ne_b24_q25 hlen4 hlt4 hle4 ry0 ry1 ry2 ry3 hq0 hq1 hq2 hq3) pd_2 rfl (by rw [hml]; rfl) (W := 0) rfl (by decide) (by decide) (by decide) (by decide) (hb hby at_295) rfl ?_
                intro T26 v26 L26 X26 q26
                obtain ⟨rfl, M26⟩ := q26
                have N26 := Fr.app N25 M26
                show Run p e below s _ _ _ (T26.setTop (mkF m 298 #[.val (.int p1), .val (.int p2), .val (.int p3), .val (.int p4), .val (.int p5), .val (.int ll), .val (.int y0), .val (.int y1), .val (.int y2), .val (.int y3), .val (.int d0), .val (.int d1), .val (.int d2), .val (.int d3), .val (.ref b5), .val (.int (0 : Int32)), .val (.ref b24)] [(.int (own_b (own_rd ll.toInt 0 [y0, y1, y2, y3])))]))
                refine Run.x_iload (q := 300) X26 hx (hb hby at_298) rfl rfl ?_
                refine Run.x_icmpNo (q := 303) X26 hx (hb hby at_300) (teq (own_b0 (own_rd_bk (by have q := hc149; rw [eq32] at q; omega) (by omega : (0 : Int) + 1 + own_sz y0 = d0.toInt) (own_rd_no2 (by have q := hc183; rw [eq32] at q; omega) (by omega : (d0.toInt : Int) + 1 + own_sz y1 = d1.toInt) (by have q := hc204; rw [lt32] at q; omega))))).2 rfl ?_
                refine Run.x_iconst (q := 304) X26 hx (hb hby at_303) (z := (1 : Int32)) rfl rfl ?_
                refine Run.x_goto (q := 308) X26 hx (hb hby at_304) (by decide) (by decide) ?_
                refine Run.retN X26 hx hlk rfl (t := .boolean) hret (by simp) (z' := (1 : Int32)) (by decide) (hb hby at_308) (by decide) (by decide) ?_
                exact ⟨rfl, N26⟩
              · skip
                refine Run.x_icmpYes (q := 213) X20 hx (hb hby at_204) (flt hc204).2.2.2 (by decide) (by decide) ?_
                refine Run.x_iload (q := 215) X20 hx (hb hby at_213) rfl rfl ?_
                refine Run.x_iload (q := 217) X20 hx (hb hby at_215) rfl rfl ?_
                by_cases hc217 : d1 = ll
                · skip
                  refine Run.x_icmpNo (q := 220) X20 hx (hb hby at_217) (teq hc217).2 rfl ?_
                  refine Run.x_iconst (q := 221) X20 hx (hb hby at_220) (z := (1 : Int32)) rfl rfl ?_
                  refine Run.x_istore (q := 223) X20 hx #[.val (.int p1), .val (.int p2), .val (.int p3), .val (.int p4), .val (.int p5), .val (.int ll), .val (.int y0), .val (.int y1), .val (.int y2), .val (.int y3), .val (.int d0), .val (.int d1), .val (.int d2), .val (.int d3), .val (.ref b5), .val (.int (1 : Int32)), .unset] (hb hby at_221) rfl rfl ?_
                  refine Run.x_goto (q := 282) X20 hx (hb hby at_223) (by decide) (by decide) ?_
                  obtain ⟨T27, h27, X27, e27, E27, A27, D27, -, st27⟩ := newO X20 hx hZ hown (hw _ (List.mem_of_getElem? (i := 6) rfl)) (hw _ (List.mem_of_getElem? (i := 7) rfl)) (hw _ (List.mem_of_getElem? (i := 8) rfl)) e20 (g := (mkF m 282 #[.val (.int p1), .val (.int p2), .val (.int p3), .val (.int p4), .val (.int p5), .val (.int ll), .val (.int y0), .val (.int y1), .val (.int y2), .val (.int y3), .val (.int d0), .val (.int d1), .val (.int d2), .val (.int d3), .val (.ref b5), .val (.int (1 : Int32)), .unset] [])) rfl (hb hby at_282) (by decide) (by decide)
                  obtain ⟨b27, gg27⟩ : ∃ z, z = h6.size := ⟨_, rfl⟩
                  rw [← gg27] at A27 D27 st27
                  have g_b27 : n0 ≤ b27 := Nat.le_trans Z6 (Nat.le_of_eq gg27.symm)
                  have ne_b5_b27 : b5 ≠ b27 := Nat.ne_of_lt (Nat.lt_of_lt_of_le A_b5.lt (Nat.le_of_eq gg27.symm))
                  have Z27 : n0 ≤ h27.size := Nat.le_trans Z6 E27.1
                  have E_b27 := A27
                  have F_b27_dcTables : Fld Z h27 b27 "semblance/JpegCoefficients" "dcTables" "[Lsemblance/JpegHuffmanTable;" .null := D27 (Or.inr (hw _ (List.mem_of_getElem? (i := 18) rfl))) (ty := (.array (.object "semblance/JpegHuffmanTable"))) (by decide)
                  have F_b27_acTables : Fld Z h27 b27 "semblance/JpegCoefficients" "acTables" "[Lsemblance/JpegHuffmanTable;" .null := D27 (Or.inr (hw _ (List.mem_of_getElem? (i := 20) rfl))) (ty := (.array (.object "semblance/JpegHuffmanTable"))) (by decide)
                  have F_b27_quantisation : Fld Z h27 b27 "semblance/JpegCoefficients" "quantisation" "[Z" .null := D27 (Or.inr (hw _ (List.mem_of_getElem? (i := 23) rfl))) (ty := (.array .boolean)) (by decide)
                  have F_b27_scans : Fld Z h27 b27 "semblance/JpegCoefficients" "scans" "Ljava/util/List;" .null := D27 (Or.inr (hw _ (List.mem_of_getElem? (i := 49) rfl))) (ty := (.object "java/util/List")) (by decide)
                  refine Run.st st27 ?_
                  show Run p e below s _ _ _ (T27.setTop (mkF m 285 #[.val (.int p1), .val (.int p2), .val (.int p3), .val (.int p4), .val (.int p5), .val (.int ll), .val (.int y0), .val (.int y1), .val (.int y2), .val (.int y3), .val (.int d0), .val (.int d1), .val (.int d2), .val (.int d3), .val (.ref b5), .val (.int (1 : Int32)), .unset] [(.ref b27)]))
                  refine Run.x_dup (q := 286) X27 hx (hb hby at_285) rfl rfl ?_
                  replace S_DEFAULTCAPACITY_EMPTY_ELEMENTDATA := S_DEFAULTCAPACITY_EMPTY_ELEMENTDATA.ext E27
                  refine Run.callC X27 hx hZ e27 (y := (⟨"semblance/JpegCoefficients", "<init>", "()V"⟩ : MethodName)) hown rfl (hw _ (List.mem_of_getElem? (i := 9) rfl)) (hw _ (List.mem_of_getElem? (i := 10) rfl)) (hw _ (List.mem_of_getElem? (i := 8) rfl)) (hw _ (List.mem_of_getElem? (i := 11) rfl)) (by decide) (a := b27) (argsL := []) (rest := [(.ref b27)]) (c_init l Z a0 hw b27 h27 n0 Z27 sd E_b27 F_b27_dcTables F_b27_acTables F_b27_quantisation F_b27_scans S_DEFAULTCAPACITY_EMPTY_ELEMENTDATA g_b27) pd_0 rfl (by rw [hml]; rfl) (W := 1) rfl (by decide) (by decide) (by decide) (by decide) (hb hby at_286) rfl ?_
                  intro T28 v28 L28 X28 q28
                  obtain ⟨q28, rfl, M28, K28, Fq28, Aq28, sq28⟩ := q28
                  have N28 := Fr.app N20 M28
                  show Run p e below s _ _ _ (T28.setTop (mkF m 289 #[.val (.int p1), .val (.int p2), .val (.int p3), .val (.int p4), .val (.int p5), .val (.int ll), .val (.int y0), .val (.int y1), .val (.int y2), .val (.int y3), .val (.int d0), .val (.int d1), .val (.int d2), .val (.int d3), .val (.ref b5), .val (.int (1 : Int32)), .unset] [(.ref b27)]))
                  replace A_b5 := A_b5.ext E27
                  have ne_b5_q28 : b5 ≠ q28 := Nat.ne_of_lt (Nat.lt_of_lt_of_le A_b5.lt sq28)
                  have ne_b27_q28 : b27 ≠ q28 := Nat.ne_of_lt (Nat.lt_of_lt_of_le E_b27.lt sq28)
                  have g_q28 : n0 ≤ q28 := Nat.le_trans Z27 sq28
                  replace S_DEFAULTCAPACITY_EMPTY_ELEMENTDATA := Sta_keep S_DEFAULTCAPACITY_EMPTY_ELEMENTDATA K28 (allS (Exa_ns E_b27) all0)
                  have Z28 : n0 ≤ T28.heap.size := Nat.le_trans Z27 K28.1
                  refine Run.x_astore (q := 291) X28 hx #[.val (.int p1), .val (.int p2), .val (.int p3), .val (.int p4), .val (.int p5), .val (.int ll), .val (.int y0), .val (.int y1), .val (.int y2), .val (.int y3), .val (.int d0), .val (.int d1), .val (.int d2), .val (.int d3), .val (.ref b5), .val (.int (1 : Int32)), .val (.ref b27)] (hb hby at_289) rfl rfl rfl ?_
                  refine Run.x_aload (q := 293) X28 hx (hb hby at_291) rfl rfl rfl ?_
                  refine Run.x_aload (q := 295) X28 hx (hb hby at_293) rfl rfl rfl ?_
                  replace E_b27 := E_b27.keep K28
                  replace A_b5 := A_b5.keep K28 (ninS ne_b5_b27 nin0)
                  refine Run.callV X28 hx hZ rfl (y := (⟨"semblance/JpegCoefficients", "readQuantisationTables", "([B)Z"⟩ : MethodName)) (z := (⟨"semblance/JpegCoefficients", "readQuantisationTables", "([B)Z"⟩ : MethodName)) hown (hw _ (List.mem_of_getElem? (i := 50) rfl)) (hw _ (List.mem_of_getElem? (i := 51) rfl)) (notFace_of_selects (args := #[]) (mvT hZ (hw _ (List.mem_of_getElem? (i := 53) rfl)))) (hw _ (List.mem_of_getElem? (i := 53) rfl)) (hw _ (List.mem_of_getElem? (i := 52) rfl)) (hw _ (List.mem_of_getElem? (i := 8) rfl)) (hw _ (List.mem_of_getElem? (i := 54) rfl)) (by decide) (a := b27) E_b27 (argsL := [(.ref b5)]) (rest := []) (c_rd l Z a0 hw b27 b5 T28.heap n0 Z28 q28 ll y0 y1 y2 y3 (((((List.replicate nn (Value.int (0 : Int32))).set 0 (Value.int y0.toInt8.toInt32)).set n1 (Value.int y1.toInt8.toInt32)).set n2 (Value.int y2.toInt8.toInt32)).set n3 (Value.int y3.toInt8.toInt32)) E_b27 Fq28 A_b5 Aq28 g_q28 ne_b5_q28 ne_b27_q28 hlen4 hlt4 hle4 ry0 ry1 ry2 ry3 hq0 hq1 hq2 hq3) pd_2 rfl (by rw [hml]; rfl) (W := 0) rfl (by decide) (by decide) (by decide) (by decide) (hb hby at_295) rfl ?_
                  intro T29 v29 L29 X29 q29
                  obtain ⟨rfl, M29⟩ := q29
                  have N29 := Fr.app N28 M29
                  show Run p e below s _ _ _ (T29.setTop (mkF m 298 #[.val (.int p1), .val (.int p2), .val (.int p3), .val (.int p4), .val (.int p5), .val (.int ll), .val (.int y0), .val (.int y1), .val (.int y2), .val (.int y3), .val (.int d0), .val (.int d1), .val (.int d2), .val (.int d3), .val (.ref b5), .val (.int (1 : Int32)), .val (.ref b27)] [(.int (own_b (own_rd ll.toInt 0 [y0, y1, y2, y3])))]))
                  refine Run.x_iload (q := 300) X29 hx (hb hby at_298) rfl rfl ?_
                  refine Run.x_icmpNo (q := 303) X29 hx (hb hby at_300) (teq (own_b1 (own_rd_step (own_b_yes hc163) (by omega : (0 : Int) + 1 + own_sz y0 = d0.toInt) (by have q := hc170; rw [lt32] at q; omega) (own_rd_step (own_b_yes hc197) (by omega : (d0.toInt : Int) + 1 + own_sz y1 = d1.toInt) (by have q := hc204; rw [lt32] at q; omega) (own_rd_eq (by have q := hc217; rw [eq32] at q; omega)))))).2 rfl ?_
                  refine Run.x_iconst (q := 304) X29 hx (hb hby at_303) (z := (1 : Int32)) rfl rfl ?_
                  refine Run.x_goto (q := 308) X29 hx (hb hby at_304) (by decide) (by decide) ?_
                  refine Run.retN X29 hx hlk rfl (t := .boolean) hret (by simp) (z' := (1 : Int32)) (by decide) (hb hby at_308) (by decide) (by decide) ?_
                  exact ⟨rfl, N29⟩
                · skip
                  refine Run.x_icmpYes (q := 226) X20 hx (hb hby at_217) (feq hc217).2 (by decide) (by decide) ?_
                  refine Run.x_iload (q := 228) X20 hx (hb hby at_226) rfl rfl ?_
                  refine Run.callS X20 hx hZ e20 (y := (⟨"semblance/JpegCoefficientsReadQuantisationTablesPinLaw", "numberOk", "(I)Z"⟩ : MethodName)) hown (hw _ (List.mem_of_getElem? (i := 55) rfl)) (hw _ (List.mem_of_getElem? (i := 56) rfl)) (hw _ (List.mem_of_getElem? (i := 3) rfl)) (hw _ (List.mem_of_getElem? (i := 57) rfl)) (by decide) (argsL := [(.int y2)]) (rest := []) (c_num l Z a0 hw y2 h6 n0 Z6 ) pd_3 rfl (by rw [hml]; rfl) (W := 0) rfl (by decide) (by decide) (by decide) (by decide) (hb hby at_228) rfl ?_
                  intro T30 v30 L30 X30 q30
                  obtain ⟨rfl, M30, e30⟩ := q30
                  have N30 := Fr.app N20 M30
                  show Run p e below s _ _ _ (T30.setTop (mkF m 231 #[.val (.int p1), .val (.int p2), .val (.int p3), .val (.int p4), .val (.int p5), .val (.int ll), .val (.int y0), .val (.int y1), .val (.int y2), .val (.int y3), .val (.int d0), .val (.int d1), .val (.int d2), .val (.int d3), .val (.ref b5), .unset, .unset] [(.int (own_b (own_ok y2)))]))
                  by_cases hc231 : (own_b (own_ok y2)) = (0 : Int32)
                  · skip
                    refine Run.x_ifYes (q := 241) X30 hx (hb hby at_231) ((if0 _ _).trans (teq hc231).1) (by decide) (by decide) ?_
                    refine Run.x_iconst (q := 242) X30 hx (hb hby at_241) (z := (0 : Int32)) rfl rfl ?_
                    refine Run.x_istore (q := 244) X30 hx #[.val (.int p1), .val (.int p2), .val (.int p3), .val (.int p4), .val (.int p5), .val (.int ll), .val (.int y0), .val (.int y1), .val (.int y2), .val (.int y3), .val (.int d0), .val (.int d1), .val (.int d2), .val (.int d3), .val (.ref b5), .val (.int (0 : Int32)), .unset] (hb hby at_242) rfl rfl ?_
                    refine Run.x_goto (q := 282) X30 hx (hb hby at_244) (by decide) (by decide) ?_
                    obtain ⟨T31, h31, X31, e31, E31, A31, D31, -, st31⟩ := newO X30 hx hZ hown (hw _ (List.mem_of_getElem? (i := 6) rfl)) (hw _ (List.mem_of_getElem? (i := 7) rfl)) (hw _ (List.mem_of_getElem? (i := 8) rfl)) e30 (g := (mkF m 282 #[.val (.int p1), .val (.int p2), .val (.int p3), .val (.int p4), .val (.int p5), .val (.int ll), .val (.int y0), .val (.int y1), .val (.int y2), .val (.int y3), .val (.int d0), .val (.int d1), .val (.int d2), .val (.int d3), .val (.ref b5), .val (.int (0 : Int32)), .unset] [])) rfl (hb hby at_282) (by decide) (by decide)
                    obtain ⟨b31, gg31⟩ : ∃ z, z = h6.size := ⟨_, rfl⟩
                    rw [← gg31] at A31 D31 st31
                    have g_b31 : n0 ≤ b31 := Nat.le_trans Z6 (Nat.le_of_eq gg31.symm)
                    have ne_b5_b31 : b5 ≠ b31 := Nat.ne_of_lt (Nat.lt_of_lt_of_le A_b5.lt (Nat.le_of_eq gg31.symm))
                    have Z31 : n0 ≤ h31.size := Nat.le_trans Z6 E31.1
                    have E_b31 := A31
                    have F_b31_dcTables : Fld Z h31 b31 "semblance/JpegCoefficients" "dcTables" "[Lsemblance/JpegHuffmanTable;" .null := D31 (Or.inr (hw _ (List.mem_of_getElem? (i := 18) rfl))) (ty := (.array (.object "semblance/JpegHuffmanTable"))) (by decide)
                    have F_b31_acTables : Fld Z h31 b31 "semblance/JpegCoefficients" "acTables" "[Lsemblance/JpegHuffmanTable;" .null := D31 (Or.inr (hw _ (List.mem_of_getElem? (i := 20) rfl))) (ty := (.array (.object "semblance/JpegHuffmanTable"))) (by decide)
                    have F_b31_quantisation : Fld Z h31 b31 "semblance/JpegCoefficients" "quantisation" "[Z" .null := D31 (Or.inr (hw _ (List.mem_of_getElem? (i := 23) rfl))) (ty := (.array .boolean)) (by decide)
                    have F_b31_scans : Fld Z h31 b31 "semblance/JpegCoefficients" "scans" "Ljava/util/List;" .null := D31 (Or.inr (hw _ (List.mem_of_getElem? (i := 49) rfl))) (ty := (.object "java/util/List")) (by decide)
                    refine Run.st st31 ?_
                    show Run p e below s _ _ _ (T31.setTop (mkF m 285 #[.val (.int p1), .val (.int p2), .val (.int p3), .val (.int p4), .val (.int p5), .val (.int ll), .val (.int y0), .val (.int y1), .val (.int y2), .val (.int y3), .val (.int d0), .val (.int d1), .val (.int d2), .val (.int d3), .val (.ref b5), .val (.int (0 : Int32)), .unset] [(.ref b31)]))
                    refine Run.x_dup (q := 286) X31 hx (hb hby at_285) rfl rfl ?_
                    replace S_DEFAULTCAPACITY_EMPTY_ELEMENTDATA := S_DEFAULTCAPACITY_EMPTY_ELEMENTDATA.ext E31
                    refine Run.callC X31 hx hZ e31 (y := (⟨"semblance/JpegCoefficients", "<init>", "()V"⟩ : MethodName)) hown rfl (hw _ (List.mem_of_getElem? (i := 9) rfl)) (hw _ (List.mem_of_getElem? (i := 10) rfl)) (hw _ (List.mem_of_getElem? (i := 8) rfl)) (hw _ (List.mem_of_getElem? (i := 11) rfl)) (by decide) (a := b31) (argsL := []) (rest := [(.ref b31)]) (c_init l Z a0 hw b31 h31 n0 Z31 sd E_b31 F_b31_dcTables F_b31_acTables F_b31_quantisation F_b31_scans S_DEFAULTCAPACITY_EMPTY_ELEMENTDATA g_b31) pd_0 rfl (by rw [hml]; rfl) (W := 1) rfl (by decide) (by decide) (by decide) (by decide) (hb hby at_286) rfl ?_
                    intro T32 v32 L32 X32 q32
                    obtain ⟨q32, rfl, M32, K32, Fq32, Aq32, sq32⟩ := q32
                    have N32 := Fr.app N30 M32
                    show Run p e below s _ _ _ (T32.setTop (mkF m 289 #[.val (.int p1), .val (.int p2), .val (.int p3), .val (.int p4), .val (.int p5), .val (.int ll), .val (.int y0), .val (.int y1), .val (.int y2), .val (.int y3), .val (.int d0), .val (.int d1), .val (.int d2), .val (.int d3), .val (.ref b5), .val (.int (0 : Int32)), .unset] [(.ref b31)]))
                    replace A_b5 := A_b5.ext E31
                    have ne_b5_q32 : b5 ≠ q32 := Nat.ne_of_lt (Nat.lt_of_lt_of_le A_b5.lt sq32)
                    have ne_b31_q32 : b31 ≠ q32 := Nat.ne_of_lt (Nat.lt_of_lt_of_le E_b31.lt sq32)
                    have g_q32 : n0 ≤ q32 := Nat.le_trans Z31 sq32
                    replace S_DEFAULTCAPACITY_EMPTY_ELEMENTDATA := Sta_keep S_DEFAULTCAPACITY_EMPTY_ELEMENTDATA K32 (allS (Exa_ns E_b31) all0)
                    have Z32 : n0 ≤ T32.heap.size := Nat.le_trans Z31 K32.1
                    refine Run.x_astore (q := 291) X32 hx #[.val (.int p1), .val (.int p2), .val (.int p3), .val (.int p4), .val (.int p5), .val (.int ll), .val (.int y0), .val (.int y1), .val (.int y2), .val (.int y3), .val (.int d0), .val (.int d1), .val (.int d2), .val (.int d3), .val (.ref b5), .val (.int (0 : Int32)), .val (.ref b31)] (hb hby at_289) rfl rfl rfl ?_
                    refine Run.x_aload (q := 293) X32 hx (hb hby at_291) rfl rfl rfl ?_
                    refine Run.x_aload (q := 295) X32 hx (hb hby at_293) rfl rfl rfl ?_
                    replace E_b31 := E_b31.keep K32
                    replace A_b5 := A_b5.keep K32 (ninS ne_b5_b31 nin0)
                    refine Run.callV X32 hx hZ rfl (y := (⟨"semblance/JpegCoefficients", "readQuantisationTables", "([B)Z"⟩ : MethodName)) (z := (⟨"semblance/JpegCoefficients", "readQuantisationTables", "([B)Z"⟩ : MethodName)) hown (hw _ (List.mem_of_getElem? (i := 50) rfl)) (hw _ (List.mem_of_getElem? (i := 51) rfl)) (notFace_of_selects (args := #[]) (mvT hZ (hw _ (List.mem_of_getElem? (i := 53) rfl)))) (hw _ (List.mem_of_getElem? (i := 53) rfl)) (hw _ (List.mem_of_getElem? (i := 52) rfl)) (hw _ (List.mem_of_getElem? (i := 8) rfl)) (hw _ (List.mem_of_getElem? (i := 54) rfl)) (by decide) (a := b31) E_b31 (argsL := [(.ref b5)]) (rest := []) (c_rd l Z a0 hw b31 b5 T32.heap n0 Z32 q32 ll y0 y1 y2 y3 (((((List.replicate nn (Value.int (0 : Int32))).set 0 (Value.int y0.toInt8.toInt32)).set n1 (Value.int y1.toInt8.toInt32)).set n2 (Value.int y2.toInt8.toInt32)).set n3 (Value.int y3.toInt8.toInt32)) E_b31 Fq32 A_b5 Aq32 g_q32 ne_b5_q32 ne_b31_q32 hlen4 hlt4 hle4 ry0 ry1 ry2 ry3 hq0 hq1 hq2 hq3) pd_2 rfl (by rw [hml]; rfl) (W := 0) rfl (by decide) (by decide) (by decide) (by decide) (hb hby at_295) rfl ?_
                    intro T33 v33 L33 X33 q33
                    obtain ⟨rfl, M33⟩ := q33
                    have N33 := Fr.app N32 M33
                    show Run p e below s _ _ _ (T33.setTop (mkF m 298 #[.val (.int p1), .val (.int p2), .val (.int p3), .val (.int p4), .val (.int p5), .val (.int ll), .val (.int y0), .val (.int y1), .val (.int y2), .val (.int y3), .val (.int d0), .val (.int d1), .val (.int d2), .val (.int d3), .val (.ref b5), .val (.int (0 : Int32)), .val (.ref b31)] [(.int (own_b (own_rd ll.toInt 0 [y0, y1, y2, y3])))]))
                    refine Run.x_iload (q := 300) X33 hx (hb hby at_298) rfl rfl ?_
                    refine Run.x_icmpNo (q := 303) X33 hx (hb hby at_300) (teq (own_b0 (own_rd_bk (by have q := hc149; rw [eq32] at q; omega) (by omega : (0 : Int) + 1 + own_sz y0 = d0.toInt) (own_rd_bk (by have q := hc183; rw [eq32] at q; omega) (by omega : (d0.toInt : Int) + 1 + own_sz y1 = d1.toInt) (own_rd_no1 (by have q := hc217; rw [eq32] at q; omega) (own_b_no hc231)))))).2 rfl ?_
                    refine Run.x_iconst (q := 304) X33 hx (hb hby at_303) (z := (1 : Int32)) rfl rfl ?_
                    refine Run.x_goto (q := 308) X33 hx (hb hby at_304) (by decide) (by decide) ?_
                    refine Run.retN X33 hx hlk rfl (t := .boolean) hret (by simp) (z' := (1 : Int32)) (by decide) (hb hby at_308) (by decide) (by decide) ?_
                    exact ⟨rfl, N33⟩
                  · skip
                    refine Run.x_ifNo (q := 234) X30 hx (hb hby at_231) ((if0 _ _).trans (feq hc231).1) rfl ?_
                    refine Run.x_iload (q := 236) X30 hx (hb hby at_234) rfl rfl ?_
                    refine Run.x_iload (q := 238) X30 hx (hb hby at_236) rfl rfl ?_
                    by_cases hc238 : ll < d2
                    · skip
                      refine Run.x_icmpNo (q := 241) X30 hx (hb hby at_238) (tlt hc238).2.2.2 rfl ?_
                      refine Run.x_iconst (q := 242) X30 hx (hb hby at_241) (z := (0 : Int32)) rfl rfl ?_
                      refine Run.x_istore (q := 244) X30 hx #[.val (.int p1), .val (.int p2), .val (.int p3), .val (.int p4), .val (.int p5), .val (.int ll), .val (.int y0), .val (.int y1), .val (.int y2), .val (.int y3), .val (.int d0), .val (.int d1), .val (.int d2), .val (.int d3), .val (.ref b5), .val (.int (0 : Int32)), .unset] (hb hby at_242) rfl rfl ?_
                      refine Run.x_goto (q := 282) X30 hx (hb hby at_244) (by decide) (by decide) ?_
                      obtain ⟨T34, h34, X34, e34, E34, A34, D34, -, st34⟩ := newO X30 hx hZ hown (hw _ (List.mem_of_getElem? (i := 6) rfl)) (hw _ (List.mem_of_getElem? (i := 7) rfl)) (hw _ (List.mem_of_getElem? (i := 8) rfl)) e30 (g := (mkF m 282 #[.val (.int p1), .val (.int p2), .val (.int p3), .val (.int p4), .val (.int p5), .val (.int ll), .val (.int y0), .val (.int y1), .val (.int y2), .val (.int y3), .val (.int d0), .val (.int d1), .val (.int d2), .val (.int d3), .val (.ref b5), .val (.int (0 : Int32)), .unset] [])) rfl (hb hby at_282) (by decide) (by decide)
                      obtain ⟨b34, gg34⟩ : ∃ z, z = h6.size := ⟨_, rfl⟩
                      rw [← gg34] at A34 D34 st34
                      have g_b34 : n0 ≤ b34 := Nat.le_trans Z6 (Nat.le_of_eq gg34.symm)
                      have ne_b5_b34 : b5 ≠ b34 := Nat.ne_of_lt (Nat.lt_of_lt_of_le A_b5.lt (Nat.le_of_eq gg34.symm))
                      have Z34 : n0 ≤ h34.size := Nat.le_trans Z6 E34.1
                      have E_b34 := A34
                      have F_b34_dcTables : Fld Z h34 b34 "semblance/JpegCoefficients" "dcTables" "[Lsemblance/JpegHuffmanTable;" .null := D34 (Or.inr (hw _ (List.mem_of_getElem? (i := 18) rfl))) (ty := (.array (.object "semblance/JpegHuffmanTable"))) (by decide)
                      have F_b34_acTables : Fld Z h34 b34 "semblance/JpegCoefficients" "acTables" "[Lsemblance/JpegHuffmanTable;" .null := D34 (Or.inr (hw _ (List.mem_of_getElem? (i := 20) rfl))) (ty := (.array (.object "semblance/JpegHuffmanTable"))) (by decide)
                      have F_b34_quantisation : Fld Z h34 b34 "semblance/JpegCoefficients" "quantisation" "[Z" .null := D34 (Or.inr (hw _ (List.mem_of_getElem? (i := 23) rfl))) (ty := (.array .boolean)) (by decide)
                      have F_b34_scans : Fld Z h34 b34 "semblance/JpegCoefficients" "scans" "Ljava/util/List;" .null := D34 (Or.inr (hw _ (List.mem_of_getElem? (i := 49) rfl))) (ty := (.object "java/util/List")) (by decide)
                      refine Run.st st34 ?_
                      show Run p e below s _ _ _ (T34.setTop (mkF m 285 #[.val (.int p1), .val (.int p2), .val (.int p3), .val (.int p4), .val (.int p5), .val (.int ll), .val (.int y0), .val (.int y1), .val (.int y2), .val (.int y3), .val (.int d0), .val (.int d1), .val (.int d2), .val (.int d3), .val (.ref b5), .val (.int (0 : Int32)), .unset] [(.ref b34)]))
                      refine Run.x_dup (q := 286) X34 hx (hb hby at_285) rfl rfl ?_
                      replace S_DEFAULTCAPACITY_EMPTY_ELEMENTDATA := S_DEFAULTCAPACITY_EMPTY_ELEMENTDATA.ext E34
                      refine Run.callC X34 hx hZ e34 (y := (⟨"semblance/JpegCoefficients", "<init>", "()V"⟩ : MethodName)) hown rfl (hw _ (List.mem_of_getElem? (i := 9) rfl)) (hw _ (List.mem_of_getElem? (i := 10) rfl)) (hw _ (List.mem_of_getElem? (i := 8) rfl)) (hw _ (List.mem_of_getElem? (i := 11) rfl)) (by decide) (a := b34) (argsL := []) (rest := [(.ref b34)]) (c_init l Z a0 hw b34 h34 n0 Z34 sd E_b34 F_b34_dcTables F_b34_acTables F_b34_quantisation F_b34_scans S_DEFAULTCAPACITY_EMPTY_ELEMENTDATA g_b34) pd_0 rfl (by rw [hml]; rfl) (W := 1) rfl (by decide) (by decide) (by decide) (by decide) (hb hby at_286) rfl ?_
                      intro T35 v35 L35 X35 q35
                      obtain ⟨q35, rfl, M35, K35, Fq35, Aq35, sq35⟩ := q35
                      have N35 := Fr.app N30 M35
                      show Run p e below s _ _ _ (T35.setTop (mkF m 289 #[.val (.int p1), .val (.int p2), .val (.int p3), .val (.int p4), .val (.int p5), .val (.int ll), .val (.int y0), .val (.int y1), .val (.int y2), .val (.int y3), .val (.int d0), .val (.int d1), .val (.int d2), .val (.int d3), .val (.ref b5), .val (.int (0 : Int32)), .unset] [(.ref b34)]))
                      replace A_b5 := A_b5.ext E34
                      have ne_b5_q35 : b5 ≠ q35 := Nat.ne_of_lt (Nat.lt_of_lt_of_le A_b5.lt sq35)
                      have ne_b34_q35 : b34 ≠ q35 := Nat.ne_of_lt (Nat.lt_of_lt_of_le E_b34.lt sq35)
                      have g_q35 : n0 ≤ q35 := Nat.le_trans Z34 sq35
                      replace S_DEFAULTCAPACITY_EMPTY_ELEMENTDATA := Sta_keep S_DEFAULTCAPACITY_EMPTY_ELEMENTDATA K35 (allS (Exa_ns E_b34) all0)
                      have Z35 : n0 ≤ T35.heap.size := Nat.le_trans Z34 K35.1
                      refine Run.x_astore (q := 291) X35 hx #[.val (.int p1), .val (.int p2), .val (.int p3), .val (.int p4), .val (.int p5), .val (.int ll), .val (.int y0), .val (.int y1), .val (.int y2), .val (.int y3), .val (.int d0), .val (.int d1), .val (.int d2), .val (.int d3), .val (.ref b5), .val (.int (0 : Int32)), .val (.ref b34)] (hb hby at_289) rfl rfl rfl ?_
                      refine Run.x_aload (q := 293) X35 hx (hb hby at_291) rfl rfl rfl ?_
                      refine Run.x_aload (q := 295) X35 hx (hb hby at_293) rfl rfl rfl ?_
                      replace E_b34 := E_b34.keep K35
                      replace A_b5 := A_b5.keep K35 (ninS ne_b5_b34 nin0)
                      refine Run.callV X35 hx hZ rfl (y := (⟨"semblance/JpegCoefficients", "readQuantisationTables", "([B)Z"⟩ : MethodName)) (z := (⟨"semblance/JpegCoefficients", "readQuantisationTables", "([B)Z"⟩ : MethodName)) hown (hw _ (List.mem_of_getElem? (i := 50) rfl)) (hw _ (List.mem_of_getElem? (i := 51) rfl)) (notFace_of_selects (args := #[]) (mvT hZ (hw _ (List.mem_of_getElem? (i := 53) rfl)))) (hw _ (List.mem_of_getElem? (i := 53) rfl)) (hw _ (List.mem_of_getElem? (i := 52) rfl)) (hw _ (List.mem_of_getElem? (i := 8) rfl)) (hw _ (List.mem_of_getElem? (i := 54) rfl)) (by decide) (a := b34) E_b34 (argsL := [(.ref b5)]) (rest := []) (c_rd l Z a0 hw b34 b5 T35.heap n0 Z35 q35 ll y0 y1 y2 y3 (((((List.replicate nn (Value.int (0 : Int32))).set 0 (Value.int y0.toInt8.toInt32)).set n1 (Value.int y1.toInt8.toInt32)).set n2 (Value.int y2.toInt8.toInt32)).set n3 (Value.int y3.toInt8.toInt32)) E_b34 Fq35 A_b5 Aq35 g_q35 ne_b5_q35 ne_b34_q35 hlen4 hlt4 hle4 ry0 ry1 ry2 ry3 hq0 hq1 hq2 hq3) pd_2 rfl (by rw [hml]; rfl) (W := 0) rfl (by decide) (by decide) (by decide) (by decide) (hb hby at_295) rfl ?_
                      intro T36 v36 L36 X36 q36
                      obtain ⟨rfl, M36⟩ := q36
                      have N36 := Fr.app N35 M36
                      show Run p e below s _ _ _ (T36.setTop (mkF m 298 #[.val (.int p1), .val (.int p2), .val (.int p3), .val (.int p4), .val (.int p5), .val (.int ll), .val (.int y0), .val (.int y1), .val (.int y2), .val (.int y3), .val (.int d0), .val (.int d1), .val (.int d2), .val (.int d3), .val (.ref b5), .val (.int (0 : Int32)), .val (.ref b34)] [(.int (own_b (own_rd ll.toInt 0 [y0, y1, y2, y3])))]))
                      refine Run.x_iload (q := 300) X36 hx (hb hby at_298) rfl rfl ?_
                      refine Run.x_icmpNo (q := 303) X36 hx (hb hby at_300) (teq (own_b0 (own_rd_bk (by have q := hc149; rw [eq32] at q; omega) (by omega : (0 : Int) + 1 + own_sz y0 = d0.toInt) (own_rd_bk (by have q := hc183; rw [eq32] at q; omega) (by omega : (d0.toInt : Int) + 1 + own_sz y1 = d1.toInt) (own_rd_no2 (by have q := hc217; rw [eq32] at q; omega) (by omega : (d1.toInt : Int) + 1 + own_sz y2 = d2.toInt) (by have q := hc238; rw [lt32] at q; omega)))))).2 rfl ?_
                      refine Run.x_iconst (q := 304) X36 hx (hb hby at_303) (z := (1 : Int32)) rfl rfl ?_
                      refine Run.x_goto (q := 308) X36 hx (hb hby at_304) (by decide) (by decide) ?_
                      refine Run.retN X36 hx hlk rfl (t := .boolean) hret (by simp) (z' := (1 : Int32)) (by decide) (hb hby at_308) (by decide) (by decide) ?_
                      exact ⟨rfl, N36⟩
                    · skip
                      refine Run.x_icmpYes (q := 247) X30 hx (hb hby at_238) (flt hc238).2.2.2 (by decide) (by decide) ?_
                      refine Run.x_iload (q := 249) X30 hx (hb hby at_247) rfl rfl ?_
                      refine Run.x_iload (q := 251) X30 hx (hb hby at_249) rfl rfl ?_
                      by_cases hc251 : d2 = ll
                      · skip
                        refine Run.x_icmpNo (q := 254) X30 hx (hb hby at_251) (teq hc251).2 rfl ?_
                        refine Run.x_iconst (q := 255) X30 hx (hb hby at_254) (z := (1 : Int32)) rfl rfl ?_
                        refine Run.x_istore (q := 257) X30 hx #[.val (.int p1), .val (.int p2), .val (.int p3), .val (.int p4), .val (.int p5), .val (.int ll), .val (.int y0), .val (.int y1), .val (.int y2), .val (.int y3), .val (.int d0), .val (.int d1), .val (.int d2), .val (.int d3), .val (.ref b5), .val (.int (1 : Int32)), .unset] (hb hby at_255) rfl rfl ?_
                        refine Run.x_goto (q := 282) X30 hx (hb hby at_257) (by decide) (by decide) ?_
                        obtain ⟨T37, h37, X37, e37, E37, A37, D37, -, st37⟩ := newO X30 hx hZ hown (hw _ (List.mem_of_getElem? (i := 6) rfl)) (hw _ (List.mem_of_getElem? (i := 7) rfl)) (hw _ (List.mem_of_getElem? (i := 8) rfl)) e30 (g := (mkF m 282 #[.val (.int p1), .val (.int p2), .val (.int p3), .val (.int p4), .val (.int p5), .val (.int ll), .val (.int y0), .val (.int y1), .val (.int y2), .val (.int y3), .val (.int d0), .val (.int d1), .val (.int d2), .val (.int d3), .val (.ref b5), .val (.int (1 : Int32)), .unset] [])) rfl (hb hby at_282) (by decide) (by decide)
                        obtain ⟨b37, gg37⟩ : ∃ z, z = h6.size := ⟨_, rfl⟩
                        rw [← gg37] at A37 D37 st37
                        have g_b37 : n0 ≤ b37 := Nat.le_trans Z6 (Nat.le_of_eq gg37.symm)
                        have ne_b5_b37 : b5 ≠ b37 := Nat.ne_of_lt (Nat.lt_of_lt_of_le A_b5.lt (Nat.le_of_eq gg37.symm))
                        have Z37 : n0 ≤ h37.size := Nat.le_trans Z6 E37.1
                        have E_b37 := A37
                        have F_b37_dcTables : Fld Z h37 b37 "semblance/JpegCoefficients" "dcTables" "[Lsemblance/JpegHuffmanTable;" .null := D37 (Or.inr (hw _ (List.mem_of_getElem? (i := 18) rfl))) (ty := (.array (.object "semblance/JpegHuffmanTable"))) (by decide)
                        have F_b37_acTables : Fld Z h37 b37 "semblance/JpegCoefficients" "acTables" "[Lsemblance/JpegHuffmanTable;" .null := D37 (Or.inr (hw _ (List.mem_of_getElem? (i := 20) rfl))) (ty := (.array (.object "semblance/JpegHuffmanTable"))) (by decide)
                        have F_b37_quantisation : Fld Z h37 b37 "semblance/JpegCoefficients" "quantisation" "[Z" .null := D37 (Or.inr (hw _ (List.mem_of_getElem? (i := 23) rfl))) (ty := (.array .boolean)) (by decide)
                        have F_b37_scans : Fld Z h37 b37 "semblance/JpegCoefficients" "scans" "Ljava/util/List;" .null := D37 (Or.inr (hw _ (List.mem_of_getElem? (i := 49) rfl))) (ty := (.object "java/util/List")) (by decide)
                        refine Run.st st37 ?_
                        show Run p e below s _ _ _ (T37.setTop (mkF m 285 #[.val (.int p1), .val (.int p2), .val (.int p3), .val (.int p4), .val (.int p5), .val (.int ll), .val (.int y0), .val (.int y1), .val (.int y2), .val (.int y3), .val (.int d0), .val (.int d1), .val (.int d2), .val (.int d3), .val (.ref b5), .val (.int (1 : Int32)), .unset] [(.ref b37)]))
                        refine Run.x_dup (q := 286) X37 hx (hb hby at_285) rfl rfl ?_
                        replace S_DEFAULTCAPACITY_EMPTY_ELEMENTDATA := S_DEFAULTCAPACITY_EMPTY_ELEMENTDATA.ext E37
                        refine Run.callC X37 hx hZ e37 (y := (⟨"semblance/JpegCoefficients", "<init>", "()V"⟩ : MethodName)) hown rfl (hw _ (List.mem_of_getElem? (i := 9) rfl)) (hw _ (List.mem_of_getElem? (i := 10) rfl)) (hw _ (List.mem_of_getElem? (i := 8) rfl)) (hw _ (List.mem_of_getElem? (i := 11) rfl)) (by decide) (a := b37) (argsL := []) (rest := [(.ref b37)]) (c_init l Z a0 hw b37 h37 n0 Z37 sd E_b37 F_b37_dcTables F_b37_acTables F_b37_quantisation F_b37_scans S_DEFAULTCAPACITY_EMPTY_ELEMENTDATA g_b37) pd_0 rfl (by rw [hml]; rfl) (W := 1) rfl (by decide) (by decide) (by decide) (by decide) (hb hby at_286) rfl ?_
                        intro T38 v38 L38 X38 q38
                        obtain ⟨q38, rfl, M38, K38, Fq38, Aq38, sq38⟩ := q38
                        have N38 := Fr.app N30 M38
                        show Run p e below s _ _ _ (T38.setTop (mkF m 289 #[.val (.int p1), .val (.int p2), .val (.int p3), .val (.int p4), .val (.int p5), .val (.int ll), .val (.int y0), .val (.int y1), .val (.int y2), .val (.int y3), .val (.int d0), .val (.int d1), .val (.int d2), .val (.int d3), .val (.ref b5), .val (.int (1 : Int32)), .unset] [(.ref b37)]))
                        replace A_b5 := A_b5.ext E37
                        have ne_b5_q38 : b5 ≠ q38 := Nat.ne_of_lt (Nat.lt_of_lt_of_le A_b5.lt sq38)
                        have ne_b37_q38 : b37 ≠ q38 := Nat.ne_of_lt (Nat.lt_of_lt_of_le E_b37.lt sq38)
                        have g_q38 : n0 ≤ q38 := Nat.le_trans Z37 sq38
                        replace S_DEFAULTCAPACITY_EMPTY_ELEMENTDATA := Sta_keep S_DEFAULTCAPACITY_EMPTY_ELEMENTDATA K38 (allS (Exa_ns E_b37) all0)
                        have Z38 : n0 ≤ T38.heap.size := Nat.le_trans Z37 K38.1
                        refine Run.x_astore (q := 291) X38 hx #[.val (.int p1), .val (.int p2), .val (.int p3), .val (.int p4), .val (.int p5), .val (.int ll), .val (.int y0), .val (.int y1), .val (.int y2), .val (.int y3), .val (.int d0), .val (.int d1), .val (.int d2), .val (.int d3), .val (.ref b5), .val (.int (1 : Int32)), .val (.ref b37)] (hb hby at_289) rfl rfl rfl ?_
                        refine Run.x_aload (q := 293) X38 hx (hb hby at_291) rfl rfl rfl ?_
                        refine Run.x_aload (q := 295) X38 hx (hb hby at_293) rfl rfl rfl ?_
                        replace E_b37 := E_b37.keep K38
                        replace A_b5 := A_b5.keep K38 (ninS ne_b5_b37 nin0)
                        refine Run.callV X38 hx hZ rfl (y := (⟨"semblance/JpegCoefficients", "readQuantisationTables", "([B)Z"⟩ : MethodName)) (z := (⟨"semblance/JpegCoefficients", "readQuantisationTables", "([B)Z"⟩ : MethodName)) hown (hw _ (List.mem_of_getElem? (i := 50) rfl)) (hw _ (List.mem_of_getElem? (i := 51) rfl)) (notFace_of_selects (args := #[]) (mvT hZ (hw _ (List.mem_of_getElem? (i := 53) rfl)))) (hw _ (List.mem_of_getElem? (i := 53) rfl)) (hw _ (List.mem_of_getElem? (i := 52) rfl)) (hw _ (List.mem_of_getElem? (i := 8) rfl)) (hw _ (List.mem_of_getElem? (i := 54) rfl)) (by decide) (a := b37) E_b37 (argsL := [(.ref b5)]) (rest := []) (c_rd l Z a0 hw b37 b5 T38.heap n0 Z38 q38 ll y0 y1 y2 y3 (((((List.replicate nn (Value.int (0 : Int32))).set 0 (Value.int y0.toInt8.toInt32)).set n1 (Value.int y1.toInt8.toInt32)).set n2 (Value.int y2.toInt8.toInt32)).set n3 (Value.int y3.toInt8.toInt32)) E_b37 Fq38 A_b5 Aq38 g_q38 ne_b5_q38 ne_b37_q38 hlen4 hlt4 hle4 ry0 ry1 ry2 ry3 hq0 hq1 hq2 hq3) pd_2 rfl (by rw [hml]; rfl) (W := 0) rfl (by decide) (by decide) (by decide) (by decide) (hb hby at_295) rfl ?_
                        intro T39 v39 L39 X39 q39
                        obtain ⟨rfl, M39⟩ := q39
                        have N39 := Fr.app N38 M39
                        show Run p e below s _ _ _ (T39.setTop (mkF m 298 #[.val (.int p1), .val (.int p2), .val (.int p3), .val (.int p4), .val (.int p5), .val (.int ll), .val (.int y0), .val (.int y1), .val (.int y2), .val (.int y3), .val (.int d0), .val (.int d1), .val (.int d2), .val (.int d3), .val (.ref b5), .val (.int (1 : Int32)), .val (.ref b37)] [(.int (own_b (own_rd ll.toInt 0 [y0, y1, y2, y3])))]))
                        refine Run.x_iload (q := 300) X39 hx (hb hby at_298) rfl rfl ?_
                        refine Run.x_icmpNo (q := 303) X39 hx (hb hby at_300) (teq (own_b1 (own_rd_step (own_b_yes hc163) (by omega : (0 : Int) + 1 + own_sz y0 = d0.toInt) (by have q := hc170; rw [lt32] at q; omega) (own_rd_step (own_b_yes hc197) (by omega : (d0.toInt : Int) + 1 + own_sz y1 = d1.toInt) (by have q := hc204; rw [lt32] at q; omega) (own_rd_step (own_b_yes hc231) (by omega : (d1.toInt : Int) + 1 + own_sz y2 = d2.toInt) (by have q := hc238; rw [lt32] at q; omega) (own_rd_eq (by have q := hc251; rw [eq32] at q; omega))))))).2 rfl ?_
                        refine Run.x_iconst (q := 304) X39 hx (hb hby at_303) (z := (1 : Int32)) rfl rfl ?_
                        refine Run.x_goto (q := 308) X39 hx (hb hby at_304) (by decide) (by decide) ?_
                        refine Run.retN X39 hx hlk rfl (t := .boolean) hret (by simp) (z' := (1 : Int32)) (by decide) (hb hby at_308) (by decide) (by decide) ?_
                        exact ⟨rfl, N39⟩
                      · skip
                        refine Run.x_icmpYes (q := 260) X30 hx (hb hby at_251) (feq hc251).2 (by decide) (by decide) ?_
                        refine Run.x_iload (q := 262) X30 hx (hb hby at_260) rfl rfl ?_
                        refine Run.callS X30 hx hZ e30 (y := (⟨"semblance/JpegCoefficientsReadQuantisationTablesPinLaw", "numberOk", "(I)Z"⟩ : MethodName)) hown (hw _ (List.mem_of_getElem? (i := 55) rfl)) (hw _ (List.mem_of_getElem? (i := 56) rfl)) (hw _ (List.mem_of_getElem? (i := 3) rfl)) (hw _ (List.mem_of_getElem? (i := 57) rfl)) (by decide) (argsL := [(.int y3)]) (rest := []) (c_num l Z a0 hw y3 h6 n0 Z6 ) pd_3 rfl (by rw [hml]; rfl) (W := 0) rfl (by decide) (by decide) (by decide) (by decide) (hb hby at_262) rfl ?_
                        intro T40 v40 L40 X40 q40
                        obtain ⟨rfl, M40, e40⟩ := q40
                        have N40 := Fr.app N30 M40
                        show Run p e below s _ _ _ (T40.setTop (mkF m 265 #[.val (.int p1), .val (.int p2), .val (.int p3), .val (.int p4), .val (.int p5), .val (.int ll), .val (.int y0), .val (.int y1), .val (.int y2), .val (.int y3), .val (.int d0), .val (.int d1), .val (.int d2), .val (.int d3), .val (.ref b5), .unset, .unset] [(.int (own_b (own_ok y3)))]))
                        by_cases hc265 : (own_b (own_ok y3)) = (0 : Int32)
                        · skip
                          refine Run.x_ifYes (q := 279) X40 hx (hb hby at_265) ((if0 _ _).trans (teq hc265).1) (by decide) (by decide) ?_
                          refine Run.x_iconst (q := 280) X40 hx (hb hby at_279) (z := (0 : Int32)) rfl rfl ?_
                          refine Run.x_istore (q := 282) X40 hx #[.val (.int p1), .val (.int p2), .val (.int p3), .val (.int p4), .val (.int p5), .val (.int ll), .val (.int y0), .val (.int y1), .val (.int y2), .val (.int y3), .val (.int d0), .val (.int d1), .val (.int d2), .val (.int d3), .val (.ref b5), .val (.int (0 : Int32)), .unset] (hb hby at_280) rfl rfl ?_
                          obtain ⟨T41, h41, X41, e41, E41, A41, D41, -, st41⟩ := newO X40 hx hZ hown (hw _ (List.mem_of_getElem? (i := 6) rfl)) (hw _ (List.mem_of_getElem? (i := 7) rfl)) (hw _ (List.mem_of_getElem? (i := 8) rfl)) e40 (g := (mkF m 282 #[.val (.int p1), .val (.int p2), .val (.int p3), .val (.int p4), .val (.int p5), .val (.int ll), .val (.int y0), .val (.int y1), .val (.int y2), .val (.int y3), .val (.int d0), .val (.int d1), .val (.int d2), .val (.int d3), .val (.ref b5), .val (.int (0 : Int32)), .unset] [])) rfl (hb hby at_282) (by decide) (by decide)
                          obtain ⟨b41, gg41⟩ : ∃ z, z = h6.size := ⟨_, rfl⟩
                          rw [← gg41] at A41 D41 st41
                          have g_b41 : n0 ≤ b41 := Nat.le_trans Z6 (Nat.le_of_eq gg41.symm)
                          have ne_b5_b41 : b5 ≠ b41 := Nat.ne_of_lt (Nat.lt_of_lt_of_le A_b5.lt (Nat.le_of_eq gg41.symm))
                          have Z41 : n0 ≤ h41.size := Nat.le_trans Z6 E41.1
                          have E_b41 := A41
                          have F_b41_dcTables : Fld Z h41 b41 "semblance/JpegCoefficients" "dcTables" "[Lsemblance/JpegHuffmanTable;" .null := D41 (Or.inr (hw _ (List.mem_of_getElem? (i := 18) rfl))) (ty := (.array (.object "semblance/JpegHuffmanTable"))) (by decide)
                          have F_b41_acTables : Fld Z h41 b41 "semblance/JpegCoefficients" "acTables" "[Lsemblance/JpegHuffmanTable;" .null := D41 (Or.inr (hw _ (List.mem_of_getElem? (i := 20) rfl))) (ty := (.array (.object "semblance/JpegHuffmanTable"))) (by decide)
                          have F_b41_quantisation : Fld Z h41 b41 "semblance/JpegCoefficients" "quantisation" "[Z" .null := D41 (Or.inr (hw _ (List.mem_of_getElem? (i := 23) rfl))) (ty := (.array .boolean)) (by decide)
                          have F_b41_scans : Fld Z h41 b41 "semblance/JpegCoefficients" "scans" "Ljava/util/List;" .null := D41 (Or.inr (hw _ (List.mem_of_getElem? (i := 49) rfl))) (ty := (.object "java/util/List")) (by decide)
                          refine Run.st st41 ?_
                          show Run p e below s _ _ _ (T41.setTop (mkF m 285 #[.val (.int p1), .val (.int p2), .val (.int p3), .val (.int p4), .val (.int p5), .val (.int ll), .val (.int y0), .val (.int y1), .val (.int y2), .val (.int y3), .val (.int d0), .val (.int d1), .val (.int d2), .val (.int d3), .val (.ref b5), .val (.int (0 : Int32)), .unset] [(.ref b41)]))
                          refine Run.x_dup (q := 286) X41 hx (hb hby at_285) rfl rfl ?_
                          replace S_DEFAULTCAPACITY_EMPTY_ELEMENTDATA := S_DEFAULTCAPACITY_EMPTY_ELEMENTDATA.ext E41
                          refine Run.callC X41 hx hZ e41 (y := (⟨"semblance/JpegCoefficients", "<init>", "()V"⟩ : MethodName)) hown rfl (hw _ (List.mem_of_getElem? (i := 9) rfl)) (hw _ (List.mem_of_getElem? (i := 10) rfl)) (hw _ (List.mem_of_getElem? (i := 8) rfl)) (hw _ (List.mem_of_getElem? (i := 11) rfl)) (by decide) (a := b41) (argsL := []) (rest := [(.ref b41)]) (c_init l Z a0 hw b41 h41 n0 Z41 sd E_b41 F_b41_dcTables F_b41_acTables F_b41_quantisation F_b41_scans S_DEFAULTCAPACITY_EMPTY_ELEMENTDATA g_b41) pd_0 rfl (by rw [hml]; rfl) (W := 1) rfl (by decide) (by decide) (by decide) (by decide) (hb hby at_286) rfl ?_
                          intro T42 v42 L42 X42 q42
                          obtain ⟨q42, rfl, M42, K42, Fq42, Aq42, sq42⟩ := q42
                          have N42 := Fr.app N40 M42
                          show Run p e below s _ _ _ (T42.setTop (mkF m 289 #[.val (.int p1), .val (.int p2), .val (.int p3), .val (.int p4), .val (.int p5), .val (.int ll), .val (.int y0), .val (.int y1), .val (.int y2), .val (.int y3), .val (.int d0), .val (.int d1), .val (.int d2), .val (.int d3), .val (.ref b5), .val (.int (0 : Int32)), .unset] [(.ref b41)]))
                          replace A_b5 := A_b5.ext E41
                          have ne_b5_q42 : b5 ≠ q42 := Nat.ne_of_lt (Nat.lt_of_lt_of_le A_b5.lt sq42)
                          have ne_b41_q42 : b41 ≠ q42 := Nat.ne_of_lt (Nat.lt_of_lt_of_le E_b41.lt sq42)
                          have g_q42 : n0 ≤ q42 := Nat.le_trans Z41 sq42
                          replace S_DEFAULTCAPACITY_EMPTY_ELEMENTDATA := Sta_keep S_DEFAULTCAPACITY_EMPTY_ELEMENTDATA K42 (allS (Exa_ns E_b41) all0)
                          have Z42 : n0 ≤ T42.heap.size := Nat.le_trans Z41 K42.1
                          refine Run.x_astore (q := 291) X42 hx #[.val (.int p1), .val (.int p2), .val (.int p3), .val (.int p4), .val (.int p5), .val (.int ll), .val (.int y0), .val (.int y1), .val (.int y2), .val (.int y3), .val (.int d0), .val (.int d1), .val (.int d2), .val (.int d3), .val (.ref b5), .val (.int (0 : Int32)), .val (.ref b41)] (hb hby at_289) rfl rfl rfl ?_
                          refine Run.x_aload (q := 293) X42 hx (hb hby at_291) rfl rfl rfl ?_
                          refine Run.x_aload (q := 295) X42 hx (hb hby at_293) rfl rfl rfl ?_
                          replace E_b41 := E_b41.keep K42
                          replace A_b5 := A_b5.keep K42 (ninS ne_b5_b41 nin0)
                          refine Run.callV X42 hx hZ rfl (y := (⟨"semblance/JpegCoefficients", "readQuantisationTables", "([B)Z"⟩ : MethodName)) (z := (⟨"semblance/JpegCoefficients", "readQuantisationTables", "([B)Z"⟩ : MethodName)) hown (hw _ (List.mem_of_getElem? (i := 50) rfl)) (hw _ (List.mem_of_getElem? (i := 51) rfl)) (notFace_of_selects (args := #[]) (mvT hZ (hw _ (List.mem_of_getElem? (i := 53) rfl)))) (hw _ (List.mem_of_getElem? (i := 53) rfl)) (hw _ (List.mem_of_getElem? (i := 52) rfl)) (hw _ (List.mem_of_getElem? (i := 8) rfl)) (hw _ (List.mem_of_getElem? (i := 54) rfl)) (by decide) (a := b41) E_b41 (argsL := [(.ref b5)]) (rest := []) (c_rd l Z a0 hw b41 b5 T42.heap n0 Z42 q42 ll y0 y1 y2 y3 (((((List.replicate nn (Value.int (0 : Int32))).set 0 (Value.int y0.toInt8.toInt32)).set n1 (Value.int y1.toInt8.toInt32)).set n2 (Value.int y2.toInt8.toInt32)).set n3 (Value.int y3.toInt8.toInt32)) E_b41 Fq42 A_b5 Aq42 g_q42 ne_b5_q42 ne_b41_q42 hlen4 hlt4 hle4 ry0 ry1 ry2 ry3 hq0 hq1 hq2 hq3) pd_2 rfl (by rw [hml]; rfl) (W := 0) rfl (by decide) (by decide) (by decide) (by decide) (hb hby at_295) rfl ?_
                          intro T43 v43 L43 X43 q43
                          obtain ⟨rfl, M43⟩ := q43
                          have N43 := Fr.app N42 M43
                          show Run p e below s _ _ _ (T43.setTop (mkF m 298 #[.val (.int p1), .val (.int p2), .val (.int p3), .val (.int p4), .val (.int p5), .val (.int ll), .val (.int y0), .val (.int y1), .val (.int y2), .val (.int y3), .val (.int d0), .val (.int d1), .val (.int d2), .val (.int d3), .val (.ref b5), .val (.int (0 : Int32)), .val (.ref b41)] [(.int (own_b (own_rd ll.toInt 0 [y0, y1, y2, y3])))]))
                          refine Run.x_iload (q := 300) X43 hx (hb hby at_298) rfl rfl ?_
                          refine Run.x_icmpNo (q := 303) X43 hx (hb hby at_300) (teq (own_b0 (own_rd_bk (by have q := hc149; rw [eq32] at q; omega) (by omega : (0 : Int) + 1 + own_sz y0 = d0.toInt) (own_rd_bk (by have q := hc183; rw [eq32] at q; omega) (by omega : (d0.toInt : Int) + 1 + own_sz y1 = d1.toInt) (own_rd_bk (by have q := hc217; rw [eq32] at q; omega) (by omega : (d1.toInt : Int) + 1 + own_sz y2 = d2.toInt) (own_rd_no1 (by have q := hc251; rw [eq32] at q; omega) (own_b_no hc265))))))).2 rfl ?_
                          refine Run.x_iconst (q := 304) X43 hx (hb hby at_303) (z := (1 : Int32)) rfl rfl ?_
                          refine Run.x_goto (q := 308) X43 hx (hb hby at_304) (by decide) (by decide) ?_
                          refine Run.retN X43 hx hlk rfl (t := .boolean) hret (by simp) (z' := (1 : Int32)) (by decide) (hb hby at_308) (by decide) (by decide) ?_
                          exact ⟨rfl, N43⟩
                        · skip
                          refine Run.x_ifNo (q := 268) X40 hx (hb hby at_265) ((if0 _ _).trans (feq hc265).1) rfl ?_
                          refine Run.x_iload (q := 270) X40 hx (hb hby at_268) rfl rfl ?_
                          refine Run.x_iload (q := 272) X40 hx (hb hby at_270) rfl rfl ?_
                          by_cases hc272 : ll < d3
                          · skip
                            refine Run.x_icmpYes (q := 279) X40 hx (hb hby at_272) (tlt hc272).2.2.1 (by decide) (by decide) ?_
                            refine Run.x_iconst (q := 280) X40 hx (hb hby at_279) (z := (0 : Int32)) rfl rfl ?_
                            refine Run.x_istore (q := 282) X40 hx #[.val (.int p1), .val (.int p2), .val (.int p3), .val (.int p4), .val (.int p5), .val (.int ll), .val (.int y0), .val (.int y1), .val (.int y2), .val (.int y3), .val (.int d0), .val (.int d1), .val (.int d2), .val (.int d3), .val (.ref b5), .val (.int (0 : Int32)), .unset] (hb hby at_280) rfl rfl ?_
                            obtain ⟨T44, h44, X44, e44, E44, A44, D44, -, st44⟩ := newO X40 hx hZ hown (hw _ (List.mem_of_getElem? (i := 6) rfl)) (hw _ (List.mem_of_getElem? (i := 7) rfl)) (hw _ (List.mem_of_getElem? (i := 8) rfl)) e40 (g := (mkF m 282 #[.val (.int p1), .val (.int p2), .val (.int p3), .val (.int p4), .val (.int p5), .val (.int ll), .val (.int y0), .val (.int y1), .val (.int y2), .val (.int y3), .val (.int d0), .val (.int d1), .val (.int d2), .val (.int d3), .val (.ref b5), .val (.int (0 : Int32)), .unset] [])) rfl (hb hby at_282) (by decide) (by decide)
                            obtain ⟨b44, gg44⟩ : ∃ z, z = h6.size := ⟨_, rfl⟩
                            rw [← gg44] at A44 D44 st44
                            have g_b44 : n0 ≤ b44 := Nat.le_trans Z6 (Nat.le_of_eq gg44.symm)
                            have ne_b5_b44 : b5 ≠ b44 := Nat.ne_of_lt (Nat.lt_of_lt_of_le A_b5.lt (Nat.le_of_eq gg44.symm))
                            have Z44 : n0 ≤ h44.size := Nat.le_trans Z6 E44.1
                            have E_b44 := A44
                            have F_b44_dcTables : Fld Z h44 b44 "semblance/JpegCoefficients" "dcTables" "[Lsemblance/JpegHuffmanTable;" .null := D44 (Or.inr (hw _ (List.mem_of_getElem? (i := 18) rfl))) (ty := (.array (.object "semblance/JpegHuffmanTable"))) (by decide)
                            have F_b44_acTables : Fld Z h44 b44 "semblance/JpegCoefficients" "acTables" "[Lsemblance/JpegHuffmanTable;" .null := D44 (Or.inr (hw _ (List.mem_of_getElem? (i := 20) rfl))) (ty := (.array (.object "semblance/JpegHuffmanTable"))) (by decide)
                            have F_b44_quantisation : Fld Z h44 b44 "semblance/JpegCoefficients" "quantisation" "[Z" .null := D44 (Or.inr (hw _ (List.mem_of_getElem? (i := 23) rfl))) (ty := (.array .boolean)) (by decide)
                            have F_b44_scans : Fld Z h44 b44 "semblance/JpegCoefficients" "scans" "Ljava/util/List;" .null := D44 (Or.inr (hw _ (List.mem_of_getElem? (i := 49) rfl))) (ty := (.object "java/util/List")) (by decide)
                            refine Run.st st44 ?_
                            show Run p e below s _ _ _ (T44.setTop (mkF m 285 #[.val (.int p1), .val (.int p2), .val (.int p3), .val (.int p4), .val (.int p5), .val (.int ll), .val (.int y0), .val (.int y1), .val (.int y2), .val (.int y3), .val (.int d0), .val (.int d1), .val (.int d2), .val (.int d3), .val (.ref b5), .val (.int (0 : Int32)), .unset] [(.ref b44)]))
                            refine Run.x_dup (q := 286) X44 hx (hb hby at_285) rfl rfl ?_
                            replace S_DEFAULTCAPACITY_EMPTY_ELEMENTDATA := S_DEFAULTCAPACITY_EMPTY_ELEMENTDATA.ext E44
                            refine Run.callC X44 hx hZ e44 (y := (⟨"semblance/JpegCoefficients", "<init>", "()V"⟩ : MethodName)) hown rfl (hw _ (List.mem_of_getElem? (i := 9) rfl)) (hw _ (List.mem_of_getElem? (i := 10) rfl)) (hw _ (List.mem_of_getElem? (i := 8) rfl)) (hw _ (List.mem_of_getElem? (i := 11) rfl)) (by decide) (a := b44) (argsL := []) (rest := [(.ref b44)]) (c_init l Z a0 hw b44 h44 n0 Z44 sd E_b44 F_b44_dcTables F_b44_acTables F_b44_quantisation F_b44_scans S_DEFAULTCAPACITY_EMPTY_ELEMENTDATA g_b44) pd_0 rfl (by rw [hml]; rfl) (W := 1) rfl (by decide) (by decide) (by decide) (by decide) (hb hby at_286) rfl ?_
                            intro T45 v45 L45 X45 q45
                            obtain ⟨q45, rfl, M45, K45, Fq45, Aq45, sq45⟩ := q45
                            have N45 := Fr.app N40 M45
                            show Run p e below s _ _ _ (T45.setTop (mkF m 289 #[.val (.int p1), .val (.int p2), .val (.int p3), .val (.int p4), .val (.int p5), .val (.int ll), .val (.int y0), .val (.int y1), .val (.int y2), .val (.int y3), .val (.int d0), .val (.int d1), .val (.int d2), .val (.int d3), .val (.ref b5), .val (.int (0 : Int32)), .unset] [(.ref b44)]))
                            replace A_b5 := A_b5.ext E44
                            have ne_b5_q45 : b5 ≠ q45 := Nat.ne_of_lt (Nat.lt_of_lt_of_le A_b5.lt sq45)
                            have ne_b44_q45 : b44 ≠ q45 := Nat.ne_of_lt (Nat.lt_of_lt_of_le E_b44.lt sq45)
                            have g_q45 : n0 ≤ q45 := Nat.le_trans Z44 sq45
                            replace S_DEFAULTCAPACITY_EMPTY_ELEMENTDATA := Sta_keep S_DEFAULTCAPACITY_EMPTY_ELEMENTDATA K45 (allS (Exa_ns E_b44) all0)
                            have Z45 : n0 ≤ T45.heap.size := Nat.le_trans Z44 K45.1
                            refine Run.x_astore (q := 291) X45 hx #[.val (.int p1), .val (.int p2), .val (.int p3), .val (.int p4), .val (.int p5), .val (.int ll), .val (.int y0), .val (.int y1), .val (.int y2), .val (.int y3), .val (.int d0), .val (.int d1), .val (.int d2), .val (.int d3), .val (.ref b5), .val (.int (0 : Int32)), .val (.ref b44)] (hb hby at_289) rfl rfl rfl ?_
                            refine Run.x_aload (q := 293) X45 hx (hb hby at_291) rfl rfl rfl ?_
                            refine Run.x_aload (q := 295) X45 hx (hb hby at_293) rfl rfl rfl ?_
                            replace E_b44 := E_b44.keep K45
                            replace A_b5 := A_b5.keep K45 (ninS ne_b5_b44 nin0)
                            refine Run.callV X45 hx hZ rfl (y := (⟨"semblance/JpegCoefficients", "readQuantisationTables", "([B)Z"⟩ : MethodName)) (z := (⟨"semblance/JpegCoefficients", "readQuantisationTables", "([B)Z"⟩ : MethodName)) hown (hw _ (List.mem_of_getElem? (i := 50) rfl)) (hw _ (List.mem_of_getElem? (i := 51) rfl)) (notFace_of_selects (args := #[]) (mvT hZ (hw _ (List.mem_of_getElem? (i := 53) rfl)))) (hw _ (List.mem_of_getElem? (i := 53) rfl)) (hw _ (List.mem_of_getElem? (i := 52) rfl)) (hw _ (List.mem_of_getElem? (i := 8) rfl)) (hw _ (List.mem_of_getElem? (i := 54) rfl)) (by decide) (a := b44) E_b44 (argsL := [(.ref b5)]) (rest := []) (c_rd l Z a0 hw b44 b5 T45.heap n0 Z45 q45 ll y0 y1 y2 y3 (((((List.replicate nn (Value.int (0 : Int32))).set 0 (Value.int y0.toInt8.toInt32)).set n1 (Value.int y1.toInt8.toInt32)).set n2 (Value.int y2.toInt8.toInt32)).set n3 (Value.int y3.toInt8.toInt32)) E_b44 Fq45 A_b5 Aq45 g_q45 ne_b5_q45 ne_b44_q45 hlen4 hlt4 hle4 ry0 ry1 ry2 ry3 hq0 hq1 hq2 hq3) pd_2 rfl (by rw [hml]; rfl) (W := 0) rfl (by decide) (by decide) (by decide) (by decide) (hb hby at_295) rfl ?_
                            intro T46 v46 L46 X46 q46
                            obtain ⟨rfl, M46⟩ := q46
                            have N46 := Fr.app N45 M46
                            show Run p e below s _ _ _ (T46.setTop (mkF m 298 #[.val (.int p1), .val (.int p2), .val (.int p3), .val (.int p4), .val (.int p5), .val (.int ll), .val (.int y0), .val (.int y1), .val (.int y2), .val (.int y3), .val (.int d0), .val (.int d1), .val (.int d2), .val (.int d3), .val (.ref b5), .val (.int (0 : Int32)), .val (.ref b44)] [(.int (own_b (own_rd ll.toInt 0 [y0, y1, y2, y3])))]))
                            refine Run.x_iload (q := 300) X46 hx (hb hby at_298) rfl rfl ?_
                            refine Run.x_icmpNo (q := 303) X46 hx (hb hby at_300) (teq (own_b0 (own_rd_bk (by have q := hc149; rw [eq32] at q; omega) (by omega : (0 : Int) + 1 + own_sz y0 = d0.toInt) (own_rd_bk (by have q := hc183; rw [eq32] at q; omega) (by omega : (d0.toInt : Int) + 1 + own_sz y1 = d1.toInt) (own_rd_bk (by have q := hc217; rw [eq32] at q; omega) (by omega : (d1.toInt : Int) + 1 + own_sz y2 = d2.toInt) (own_rd_no2 (by have q := hc251; rw [eq32] at q; omega) (by omega : (d2.toInt : Int) + 1 + own_sz y3 = d3.toInt) (by have q := hc272; rw [lt32] at q; omega))))))).2 rfl ?_
                            refine Run.x_iconst (q := 304) X46 hx (hb hby at_303) (z := (1 : Int32)) rfl rfl ?_
                            refine Run.x_goto (q := 308) X46 hx (hb hby at_304) (by decide) (by decide) ?_
                            refine Run.retN X46 hx hlk rfl (t := .boolean) hret (by simp) (z' := (1 : Int32)) (by decide) (hb hby at_308) (by decide) (by decide) ?_
                            exact ⟨rfl, N46⟩
                          · skip
                            refine Run.x_icmpNo (q := 275) X40 hx (hb hby at_272) (flt hc272).2.2.1 rfl ?_
                            refine Run.x_iconst (q := 276) X40 hx (hb hby at_275) (z := (1 : Int32)) rfl rfl ?_
                            refine Run.x_goto (q := 280) X40 hx (hb hby at_276) (by decide) (by decide) ?_
                            refine Run.x_istore (q := 282) X40 hx #[.val (.int p1), .val (.int p2), .val (.int p3), .val (.int p4), .val (.int p5), .val (.int ll), .val (.int y0), .val (.int y1), .val (.int y2), .val (.int y3), .val (.int d0), .val (.int d1), .val (.int d2), .val (.int d3), .val (.ref b5), .val (.int (1 : Int32)), .unset] (hb hby at_280) rfl rfl ?_
                            obtain ⟨T47, h47, X47, e47, E47, A47, D47, -, st47⟩ := newO X40 hx hZ hown (hw _ (List.mem_of_getElem? (i := 6) rfl)) (hw _ (List.mem_of_getElem? (i := 7) rfl)) (hw _ (List.mem_of_getElem? (i := 8) rfl)) e40 (g := (mkF m 282 #[.val (.int p1), .val (.int p2), .val (.int p3), .val (.int p4), .val (.int p5), .val (.int ll), .val (.int y0), .val (.int y1), .val (.int y2), .val (.int y3), .val (.int d0), .val (.int d1), .val (.int d2), .val (.int d3), .val (.ref b5), .val (.int (1 : Int32)), .unset] [])) rfl (hb hby at_282) (by decide) (by decide)
                            obtain ⟨b47, gg47⟩ : ∃ z, z = h6.size := ⟨_, rfl⟩
                            rw [← gg47] at A47 D47 st47
                            have g_b47 : n0 ≤ b47 := Nat.le_trans Z6 (Nat.le_of_eq gg47.symm)
                            have ne_b5_b47 : b5 ≠ b47 := Nat.ne_of_lt (Nat.lt_of_lt_of_le A_b5.lt (Nat.le_of_eq gg47.symm))
                            have Z47 : n0 ≤ h47.size := Nat.le_trans Z6 E47.1
                            have E_b47 := A47
                            have F_b47_dcTables : Fld Z h47 b47 "semblance/JpegCoefficients" "dcTables" "[Lsemblance/JpegHuffmanTable;" .null := D47 (Or.inr (hw _ (List.mem_of_getElem? (i := 18) rfl))) (ty := (.array (.object "semblance/JpegHuffmanTable"))) (by decide)
                            have F_b47_acTables : Fld Z h47 b47 "semblance/JpegCoefficients" "acTables" "[Lsemblance/JpegHuffmanTable;" .null := D47 (Or.inr (hw _ (List.mem_of_getElem? (i := 20) rfl))) (ty := (.array (.object "semblance/JpegHuffmanTable"))) (by decide)
                            have F_b47_quantisation : Fld Z h47 b47 "semblance/JpegCoefficients" "quantisation" "[Z" .null := D47 (Or.inr (hw _ (List.mem_of_getElem? (i := 23) rfl))) (ty := (.array .boolean)) (by decide)
                            have F_b47_scans : Fld Z h47 b47 "semblance/JpegCoefficients" "scans" "Ljava/util/List;" .null := D47 (Or.inr (hw _ (List.mem_of_getElem? (i := 49) rfl))) (ty := (.object "java/util/List")) (by decide)
                            refine Run.st st47 ?_
                            show Run p e below s _ _ _ (T47.setTop (mkF m 285 #[.val (.int p1), .val (.int p2), .val (.int p3), .val (.int p4), .val (.int p5), .val (.int ll), .val (.int y0), .val (.int y1), .val (.int y2), .val (.int y3), .val (.int d0), .val (.int d1), .val (.int d2), .val (.int d3), .val (.ref b5), .val (.int (1 : Int32)), .unset] [(.ref b47)]))
                            refine Run.x_dup (q := 286) X47 hx (hb hby at_285) rfl rfl ?_
                            replace S_DEFAULTCAPACITY_EMPTY_ELEMENTDATA := S_DEFAULTCAPACITY_EMPTY_ELEMENTDATA.ext E47
                            refine Run.callC X47 hx hZ e47 (y := (⟨"semblance/JpegCoefficients", "<init>", "()V"⟩ : MethodName)) hown rfl (hw _ (List.mem_of_getElem? (i := 9) rfl)) (hw _ (List.mem_of_getElem? (i := 10) rfl)) (hw _ (List.mem_of_getElem? (i := 8) rfl)) (hw _ (List.mem_of_getElem? (i := 11) rfl)) (by decide) (a := b47) (argsL := []) (rest := [(.ref b47)]) (c_init l Z a0 hw b47 h47 n0 Z47 sd E_b47 F_b47_dcTables F_b47_acTables F_b47_quantisation F_b47_scans S_DEFAULTCAPACITY_EMPTY_ELEMENTDATA g_b47) pd_0 rfl (by rw [hml]; rfl) (W := 1) rfl (by decide) (by decide) (by decide) (by decide) (hb hby at_286) rfl ?_
                            intro T48 v48 L48 X48 q48
                            obtain ⟨q48, rfl, M48, K48, Fq48, Aq48, sq48⟩ := q48
                            have N48 := Fr.app N40 M48
                            show Run p e below s _ _ _ (T48.setTop (mkF m 289 #[.val (.int p1), .val (.int p2), .val (.int p3), .val (.int p4), .val (.int p5), .val (.int ll), .val (.int y0), .val (.int y1), .val (.int y2), .val (.int y3), .val (.int d0), .val (.int d1), .val (.int d2), .val (.int d3), .val (.ref b5), .val (.int (1 : Int32)), .unset] [(.ref b47)]))
                            replace A_b5 := A_b5.ext E47
                            have ne_b5_q48 : b5 ≠ q48 := Nat.ne_of_lt (Nat.lt_of_lt_of_le A_b5.lt sq48)
                            have ne_b47_q48 : b47 ≠ q48 := Nat.ne_of_lt (Nat.lt_of_lt_of_le E_b47.lt sq48)
                            have g_q48 : n0 ≤ q48 := Nat.le_trans Z47 sq48
                            replace S_DEFAULTCAPACITY_EMPTY_ELEMENTDATA := Sta_keep S_DEFAULTCAPACITY_EMPTY_ELEMENTDATA K48 (allS (Exa_ns E_b47) all0)
                            have Z48 : n0 ≤ T48.heap.size := Nat.le_trans Z47 K48.1
                            refine Run.x_astore (q := 291) X48 hx #[.val (.int p1), .val (.int p2), .val (.int p3), .val (.int p4), .val (.int p5), .val (.int ll), .val (.int y0), .val (.int y1), .val (.int y2), .val (.int y3), .val (.int d0), .val (.int d1), .val (.int d2), .val (.int d3), .val (.ref b5), .val (.int (1 : Int32)), .val (.ref b47)] (hb hby at_289) rfl rfl rfl ?_
                            refine Run.x_aload (q := 293) X48 hx (hb hby at_291) rfl rfl rfl ?_
                            refine Run.x_aload (q := 295) X48 hx (hb hby at_293) rfl rfl rfl ?_
                            replace E_b47 := E_b47.keep K48
                            replace A_b5 := A_b5.keep K48 (ninS ne_b5_b47 nin0)
                            refine Run.callV X48 hx hZ rfl (y := (⟨"semblance/JpegCoefficients", "readQuantisationTables", "([B)Z"⟩ : MethodName)) (z := (⟨"semblance/JpegCoefficients", "readQuantisationTables", "([B)Z"⟩ : MethodName)) hown (hw _ (List.mem_of_getElem? (i := 50) rfl)) (hw _ (List.mem_of_getElem? (i := 51) rfl)) (notFace_of_selects (args := #[]) (mvT hZ (hw _ (List.mem_of_getElem? (i := 53) rfl)))) (hw _ (List.mem_of_getElem? (i := 53) rfl)) (hw _ (List.mem_of_getElem? (i := 52) rfl)) (hw _ (List.mem_of_getElem? (i := 8) rfl)) (hw _ (List.mem_of_getElem? (i := 54) rfl)) (by decide) (a := b47) E_b47 (argsL := [(.ref b5)]) (rest := []) (c_rd l Z a0 hw b47 b5 T48.heap n0 Z48 q48 ll y0 y1 y2 y3 (((((List.replicate nn (Value.int (0 : Int32))).set 0 (Value.int y0.toInt8.toInt32)).set n1 (Value.int y1.toInt8.toInt32)).set n2 (Value.int y2.toInt8.toInt32)).set n3 (Value.int y3.toInt8.toInt32)) E_b47 Fq48 A_b5 Aq48 g_q48 ne_b5_q48 ne_b47_q48 hlen4 hlt4 hle4 ry0 ry1 ry2 ry3 hq0 hq1 hq2 hq3) pd_2 rfl (by rw [hml]; rfl) (W := 0) rfl (by decide) (by decide) (by decide) (by decide) (hb hby at_295) rfl ?_
                            intro T49 v49 L49 X49 q49
                            obtain ⟨rfl, M49⟩ := q49
                            have N49 := Fr.app N48 M49
                            show Run p e below s _ _ _ (T49.setTop (mkF m 298 #[.val (.int p1), .val (.int p2), .val (.int p3), .val (.int p4), .val (.int p5), .val (.int ll), .val (.int y0), .val (.int y1), .val (.int y2), .val (.int y3), .val (.int d0), .val (.int d1), .val (.int d2), .val (.int d3), .val (.ref b5), .val (.int (1 : Int32)), .val (.ref b47)] [(.int (own_b (own_rd ll.toInt 0 [y0, y1, y2, y3])))]))
                            refine Run.x_iload (q := 300) X49 hx (hb hby at_298) rfl rfl ?_
                            refine Run.x_icmpNo (q := 303) X49 hx (hb hby at_300) (teq (own_b1 (own_rd_step (own_b_yes hc163) (by omega : (0 : Int) + 1 + own_sz y0 = d0.toInt) (by have q := hc170; rw [lt32] at q; omega) (own_rd_step (own_b_yes hc197) (by omega : (d0.toInt : Int) + 1 + own_sz y1 = d1.toInt) (by have q := hc204; rw [lt32] at q; omega) (own_rd_step (own_b_yes hc231) (by omega : (d1.toInt : Int) + 1 + own_sz y2 = d2.toInt) (by have q := hc238; rw [lt32] at q; omega) (own_rd_step (own_b_yes hc265) (by omega : (d2.toInt : Int) + 1 + own_sz y3 = d3.toInt) (by have q := hc272; rw [lt32] at q; omega) own_rd0)))))).2 rfl ?_
                            refine Run.x_iconst (q := 304) X49 hx (hb hby at_303) (z := (1 : Int32)) rfl rfl ?_
                            refine Run.x_goto (q := 308) X49 hx (hb hby at_304) (by decide) (by decide) ?_
                            refine Run.retN X49 hx hlk rfl (t := .boolean) hret (by simp) (z' := (1 : Int32)) (by decide) (hb hby at_308) (by decide) (by decide) ?_
                            exact ⟨rfl, N49⟩
  have J132 : ∀ (T50 : State) (h50 : Heap) (lo50 : List Loc), Stand p l e room_1 s m #[(.int p1), (.int p2), (.int p3), (.int p4), (.int p5)] below meth c T50 lo50 1 260 → T50.heap = h50 → Fr n0 lo50 → n0 ≤ h50.size → Sta Z h50 "java/util/ArrayList" "DEFAULTCAPACITY_EMPTY_ELEMENTDATA" "[Ljava/lang/Object;" (.ref sd) → Ars Z h50 b5 .byte ((((List.replicate nn (Value.int (0 : Int32))).set 0 (Value.int y0.toInt8.toInt32)).set n1 (Value.int y1.toInt8.toInt32)).set n2 (Value.int y2.toInt8.toInt32)) → Run p e below s (Tru n0) room_1.cells room_1.slots (T50.setTop (mkF m 132 #[.val (.int p1), .val (.int p2), .val (.int p3), .val (.int p4), .val (.int p5), .val (.int ll), .val (.int y0), .val (.int y1), .val (.int y2), .val (.int y3), .val (.int d0), .val (.int d1), .val (.int d2), .val (.int d3), .val (.ref b5), .unset, .unset] [])) := by
    intro T50 h50 lo50 X50 e50 N50 Z50 S_DEFAULTCAPACITY_EMPTY_ELEMENTDATA A_b5
    refine Run.x_iload (q := 134) X50 hx (hb hby at_132) rfl rfl ?_
    refine Run.x_iload (q := 136) X50 hx (hb hby at_134) rfl rfl ?_
    by_cases hc136 : d2 < ll
    · skip
      refine Run.x_icmpNo (q := 139) X50 hx (hb hby at_136) (tlt hc136).2.1 rfl ?_
      refine Run.x_aload (q := 141) X50 hx (hb hby at_139) rfl rfl rfl ?_
      refine Run.x_iload (q := 143) X50 hx (hb hby at_141) rfl rfl ?_
      refine Run.x_iload (q := 145) X50 hx (hb hby at_143) rfl rfl ?_
      refine Run.x_i2b (q := 146) X50 hx (hb hby at_145) rfl rfl ?_
      refine Run.stB X50 hx hZ e50 A_b5 (i := n3) hn3 (by have q := hc136; rw [lt32] at q; simp only [List.length_set, List.length_replicate]; omega) (z' := y3.toInt8.toInt32) (nar_b _) (hb hby at_146) ?_
      intro T51 h51 X51 e51 W51 A51
      replace A_b5 : Ars Z h51 b5 .byte (((((List.replicate nn (Value.int (0 : Int32))).set 0 (Value.int y0.toInt8.toInt32)).set n1 (Value.int y1.toInt8.toInt32)).set n2 (Value.int y2.toInt8.toInt32)).set n3 (Value.int y3.toInt8.toInt32)) := A51
      have N51 := Fr.snoc X51 N50 g_b5
      have Z51 : n0 ≤ h51.size := Nat.le_trans Z50 (Nat.le_of_eq W51.size.symm)
      show Run p e below s _ _ _ (T51.setTop (mkF m 147 #[.val (.int p1), .val (.int p2), .val (.int p3), .val (.int p4), .val (.int p5), .val (.int ll), .val (.int y0), .val (.int y1), .val (.int y2), .val (.int y3), .val (.int d0), .val (.int d1), .val (.int d2), .val (.int d3), .val (.ref b5), .unset, .unset] []))
      replace S_DEFAULTCAPACITY_EMPTY_ELEMENTDATA := S_DEFAULTCAPACITY_EMPTY_ELEMENTDATA.wr W51
      exact J147 T51 h51 _ X51 e51 N51 Z51 S_DEFAULTCAPACITY_EMPTY_ELEMENTDATA A_b5
    · skip
      refine Run.x_icmpYes (q := 147) X50 hx (hb hby at_136) (flt hc136).2.1 (by decide) (by decide) ?_
      rw [← own_set (vs := ((((List.replicate nn (Value.int (0 : Int32))).set 0 (Value.int y0.toInt8.toInt32)).set n1 (Value.int y1.toInt8.toInt32)).set n2 (Value.int y2.toInt8.toInt32))) (i := n3) (v := .int y3.toInt8.toInt32) (by have q := hc136; rw [lt32] at q; simp only [List.length_set, List.length_replicate]; omega)] at A_b5
      exact J147 T50 h50 _ X50 e50 N50 Z50 S_DEFAULTCAPACITY_EMPTY_ELEMENTDATA A_b5
  have J117 : ∀ (T52 : State) (h52 : Heap) (lo52 : List Loc), Stand p l e room_1 s m #[(.int p1), (.int p2), (.int p3), (.int p4), (.int p5)] below meth c T52 lo52 1 260 → T52.heap = h52 → Fr n0 lo52 → n0 ≤ h52.size → Sta Z h52 "java/util/ArrayList" "DEFAULTCAPACITY_EMPTY_ELEMENTDATA" "[Ljava/lang/Object;" (.ref sd) → Ars Z h52 b5 .byte (((List.replicate nn (Value.int (0 : Int32))).set 0 (Value.int y0.toInt8.toInt32)).set n1 (Value.int y1.toInt8.toInt32)) → Run p e below s (Tru n0) room_1.cells room_1.slots (T52.setTop (mkF m 117 #[.val (.int p1), .val (.int p2), .val (.int p3), .val (.int p4), .val (.int p5), .val (.int ll), .val (.int y0), .val (.int y1), .val (.int y2), .val (.int y3), .val (.int d0), .val (.int d1), .val (.int d2), .val (.int d3), .val (.ref b5), .unset, .unset] [])) := by
    intro T52 h52 lo52 X52 e52 N52 Z52 S_DEFAULTCAPACITY_EMPTY_ELEMENTDATA A_b5
    refine Run.x_iload (q := 119) X52 hx (hb hby at_117) rfl rfl ?_
    refine Run.x_iload (q := 121) X52 hx (hb hby at_119) rfl rfl ?_
    by_cases hc121 : d1 < ll
    · skip
      refine Run.x_icmpNo (q := 124) X52 hx (hb hby at_121) (tlt hc121).2.1 rfl ?_
      refine Run.x_aload (q := 126) X52 hx (hb hby at_124) rfl rfl rfl ?_
      refine Run.x_iload (q := 128) X52 hx (hb hby at_126) rfl rfl ?_
      refine Run.x_iload (q := 130) X52 hx (hb hby at_128) rfl rfl ?_
      refine Run.x_i2b (q := 131) X52 hx (hb hby at_130) rfl rfl ?_
      refine Run.stB X52 hx hZ e52 A_b5 (i := n2) hn2 (by have q := hc121; rw [lt32] at q; simp only [List.length_set, List.length_replicate]; omega) (z' := y2.toInt8.toInt32) (nar_b _) (hb hby at_131) ?_
      intro T53 h53 X53 e53 W53 A53
      replace A_b5 : Ars Z h53 b5 .byte ((((List.replicate nn (Value.int (0 : Int32))).set 0 (Value.int y0.toInt8.toInt32)).set n1 (Value.int y1.toInt8.toInt32)).set n2 (Value.int y2.toInt8.toInt32)) := A53
      have N53 := Fr.snoc X53 N52 g_b5
      have Z53 : n0 ≤ h53.size := Nat.le_trans Z52 (Nat.le_of_eq W53.size.symm)
      show Run p e below s _ _ _ (T53.setTop (mkF m 132 #[.val (.int p1), .val (.int p2), .val (.int p3), .val (.int p4), .val (.int p5), .val (.int ll), .val (.int y0), .val (.int y1), .val (.int y2), .val (.int y3), .val (.int d0), .val (.int d1), .val (.int d2), .val (.int d3), .val (.ref b5), .unset, .unset] []))
      replace S_DEFAULTCAPACITY_EMPTY_ELEMENTDATA := S_DEFAULTCAPACITY_EMPTY_ELEMENTDATA.wr W53
      exact J132 T53 h53 _ X53 e53 N53 Z53 S_DEFAULTCAPACITY_EMPTY_ELEMENTDATA A_b5
    · skip
      refine Run.x_icmpYes (q := 132) X52 hx (hb hby at_121) (flt hc121).2.1 (by decide) (by decide) ?_
      rw [← own_set (vs := (((List.replicate nn (Value.int (0 : Int32))).set 0 (Value.int y0.toInt8.toInt32)).set n1 (Value.int y1.toInt8.toInt32))) (i := n2) (v := .int y2.toInt8.toInt32) (by have q := hc121; rw [lt32] at q; simp only [List.length_set, List.length_replicate]; omega)] at A_b5
      exact J132 T52 h52 _ X52 e52 N52 Z52 S_DEFAULTCAPACITY_EMPTY_ELEMENTDATA A_b5
  have J102 : ∀ (T54 : State) (h54 : Heap) (lo54 : List Loc), Stand p l e room_1 s m #[(.int p1), (.int p2), (.int p3), (.int p4), (.int p5)] below meth c T54 lo54 1 260 → T54.heap = h54 → Fr n0 lo54 → n0 ≤ h54.size → Sta Z h54 "java/util/ArrayList" "DEFAULTCAPACITY_EMPTY_ELEMENTDATA" "[Ljava/lang/Object;" (.ref sd) → Ars Z h54 b5 .byte ((List.replicate nn (Value.int (0 : Int32))).set 0 (Value.int y0.toInt8.toInt32)) → Run p e below s (Tru n0) room_1.cells room_1.slots (T54.setTop (mkF m 102 #[.val (.int p1), .val (.int p2), .val (.int p3), .val (.int p4), .val (.int p5), .val (.int ll), .val (.int y0), .val (.int y1), .val (.int y2), .val (.int y3), .val (.int d0), .val (.int d1), .val (.int d2), .val (.int d3), .val (.ref b5), .unset, .unset] [])) := by
    intro T54 h54 lo54 X54 e54 N54 Z54 S_DEFAULTCAPACITY_EMPTY_ELEMENTDATA A_b5
    refine Run.x_iload (q := 104) X54 hx (hb hby at_102) rfl rfl ?_
    refine Run.x_iload (q := 106) X54 hx (hb hby at_104) rfl rfl ?_
    by_cases hc106 : d0 < ll
    · skip
      refine Run.x_icmpNo (q := 109) X54 hx (hb hby at_106) (tlt hc106).2.1 rfl ?_
      refine Run.x_aload (q := 111) X54 hx (hb hby at_109) rfl rfl rfl ?_
      refine Run.x_iload (q := 113) X54 hx (hb hby at_111) rfl rfl ?_
      refine Run.x_iload (q := 115) X54 hx (hb hby at_113) rfl rfl ?_
      refine Run.x_i2b (q := 116) X54 hx (hb hby at_115) rfl rfl ?_
      refine Run.stB X54 hx hZ e54 A_b5 (i := n1) hn1 (by have q := hc106; rw [lt32] at q; simp only [List.length_set, List.length_replicate]; omega) (z' := y1.toInt8.toInt32) (nar_b _) (hb hby at_116) ?_
      intro T55 h55 X55 e55 W55 A55
      replace A_b5 : Ars Z h55 b5 .byte (((List.replicate nn (Value.int (0 : Int32))).set 0 (Value.int y0.toInt8.toInt32)).set n1 (Value.int y1.toInt8.toInt32)) := A55
      have N55 := Fr.snoc X55 N54 g_b5
      have Z55 : n0 ≤ h55.size := Nat.le_trans Z54 (Nat.le_of_eq W55.size.symm)
      show Run p e below s _ _ _ (T55.setTop (mkF m 117 #[.val (.int p1), .val (.int p2), .val (.int p3), .val (.int p4), .val (.int p5), .val (.int ll), .val (.int y0), .val (.int y1), .val (.int y2), .val (.int y3), .val (.int d0), .val (.int d1), .val (.int d2), .val (.int d3), .val (.ref b5), .unset, .unset] []))
      replace S_DEFAULTCAPACITY_EMPTY_ELEMENTDATA := S_DEFAULTCAPACITY_EMPTY_ELEMENTDATA.wr W55
      exact J117 T55 h55 _ X55 e55 N55 Z55 S_DEFAULTCAPACITY_EMPTY_ELEMENTDATA A_b5
    · skip
      refine Run.x_icmpYes (q := 117) X54 hx (hb hby at_106) (flt hc106).2.1 (by decide) (by decide) ?_
      rw [← own_set (vs := ((List.replicate nn (Value.int (0 : Int32))).set 0 (Value.int y0.toInt8.toInt32))) (i := n1) (v := .int y1.toInt8.toInt32) (by have q := hc106; rw [lt32] at q; simp only [List.length_set, List.length_replicate]; omega)] at A_b5
      exact J117 T54 h54 _ X54 e54 N54 Z54 S_DEFAULTCAPACITY_EMPTY_ELEMENTDATA A_b5
  refine Run.x_iload (q := 92) X5 hx (hb hby at_90) rfl rfl ?_
  by_cases hc92 : (0 : Int32) < ll
  · skip
    refine Run.x_ifNo (q := 95) X5 hx (hb hby at_92) ((if0 _ _).trans (tlt hc92).2.2.2) rfl ?_
    refine Run.x_aload (q := 97) X5 hx (hb hby at_95) rfl rfl rfl ?_
    refine Run.x_iconst (q := 98) X5 hx (hb hby at_97) (z := (0 : Int32)) rfl rfl ?_
    refine Run.x_iload (q := 100) X5 hx (hb hby at_98) rfl rfl ?_
    refine Run.x_i2b (q := 101) X5 hx (hb hby at_100) rfl rfl ?_
    refine Run.stB X5 hx hZ e5 A_b5 (i := 0) (by decide) (by have q := hc92; rw [lt32] at q; simp only [List.length_set, List.length_replicate]; omega) (z' := y0.toInt8.toInt32) (nar_b _) (hb hby at_101) ?_
    intro T56 h56 X56 e56 W56 A56
    replace A_b5 : Ars Z h56 b5 .byte ((List.replicate nn (Value.int (0 : Int32))).set 0 (Value.int y0.toInt8.toInt32)) := A56
    have N56 := Fr.snoc X56 N4 g_b5
    have Z56 : n0 ≤ h56.size := Nat.le_trans Z5 (Nat.le_of_eq W56.size.symm)
    show Run p e below s _ _ _ (T56.setTop (mkF m 102 #[.val (.int p1), .val (.int p2), .val (.int p3), .val (.int p4), .val (.int p5), .val (.int ll), .val (.int y0), .val (.int y1), .val (.int y2), .val (.int y3), .val (.int d0), .val (.int d1), .val (.int d2), .val (.int d3), .val (.ref b5), .unset, .unset] []))
    replace S_DEFAULTCAPACITY_EMPTY_ELEMENTDATA := (S_DEFAULTCAPACITY_EMPTY_ELEMENTDATA.ext E5).wr W56
    exact J102 T56 h56 _ X56 e56 N56 Z56 S_DEFAULTCAPACITY_EMPTY_ELEMENTDATA A_b5
  · skip
    refine Run.x_ifYes (q := 102) X5 hx (hb hby at_92) ((if0 _ _).trans (flt hc92).2.2.2) (by decide) (by decide) ?_
    rw [← own_set (vs := (List.replicate nn (Value.int (0 : Int32)))) (i := 0) (v := .int y0.toInt8.toInt32) (by have q := hc92; rw [lt32] at q; simp only [List.length_set, List.length_replicate]; omega)] at A_b5
    replace S_DEFAULTCAPACITY_EMPTY_ELEMENTDATA := S_DEFAULTCAPACITY_EMPTY_ELEMENTDATA.ext E5
    exact J102 T5 h5 _ X5 e5 N4 Z5 S_DEFAULTCAPACITY_EMPTY_ELEMENTDATA A_b5
set_option maxRecDepth 65536 in
set_option maxHeartbeats 40000000 in
theorem comes_1 {Post : Tables → Env → Array Value → State → Outcome → State → Prop} (hpost : ∀ tb e args s v u, (limb_1_1.after args s (.returned v) u = true ∧ limb_1_2.after args s (.returned v) u = true ∧ True) → FrameEnd s (.returned v) u (Jvm.fieldLocs frame_1_writes args s ++ Jvm.arrayLocs frame_1_arrays args s ++ Jvm.staticLocs frame_1_statics s) 24 640 → Post tb e args s (.returned v) u) :
    ArmFor flags0 classFile x code maxLocals ret World_1 tables_1 room_1 Calls_1 rest_1 Pre_1 Post := by
  intro l hfl _ _ p e ha hc hk s m args below hf hA hF happ hP
  obtain ⟨hcalls, hrest, hpre⟩ := hP
  obtain ⟨-, -, -, hnamed, -, -, -, hat⟩ := (Spec.applies_iff hf).mp happ
  obtain ⟨hg, hn⟩ := and_e (Cond.before_iff.mp (show (Jvm.Cond.and given_1 narrow_1).before args s = true from hpre))
  obtain ⟨g1, g2⟩ := and_e hg
  obtain ⟨g3, g4⟩ := and_e g2
  obtain ⟨g5, g6⟩ := and_e g4
  obtain ⟨g7, g8⟩ := and_e g6
  obtain ⟨g9, g10⟩ := and_e g8
  obtain ⟨w0, w1, w2, w3, w4, rfl⟩ : ∃ w0 w1 w2 w3 w4 : Value, args = #[w0, w1, w2, w3, w4] := by
    have hs : args.size = 5 := by simpa [Cond.value, given_1] using g1
    obtain ⟨L⟩ := args
    match L, hs with
    | [w0, w1, w2, w3, w4], _ => exact ⟨w0, w1, w2, w3, w4, rfl⟩
  have hw := fun d (hd : d ∈ tables_1) => atoms_spec (ws := Jvm.Cond.code x code maxLocals ret :: tables_1) hat d (List.mem_cons_of_mem _ hd)
  have hfit : Fit s := fun {y c} hc i hi => by
    obtain ⟨ha, rfl⟩ := Array.getElem?_eq_some_iff.mp hc
    have q := List.all_eq_true.mp ((Array.all_eq_true_iff_forall_mem.mp hF) _ (Array.getElem_mem ha)) i (List.mem_range.mpr hi)
    simpa [Array.getElem?_eq_getElem hi] using q
  obtain ⟨hsets, hown0⟩ := atoms_of _ (rest_1_c_eq ▸ (show rest_1_c.before _ s = true from hrest))
  have hr0 := Cond.before_iff.mp hown0
  obtain ⟨i0, ei0⟩ := is_v g3
  obtain rfl : w0 = (.int i0) := Option.some.inj ei0
  obtain ⟨i1, ei1⟩ := is_v g5
  obtain rfl : w1 = (.int i1) := Option.some.inj ei1
  obtain ⟨i2, ei2⟩ := is_v g7
  obtain rfl : w2 = (.int i2) := Option.some.inj ei2
  obtain ⟨i3, ei3⟩ := is_v g9
  obtain rfl : w3 = (.int i3) := Option.some.inj ei3
  obtain ⟨i4, ei4⟩ := is_v g10
  obtain rfl : w4 = (.int i4) := Option.some.inj ei4
  obtain ⟨sd, esd⟩ := exa_v (Cond.before_iff.mp (hsets _ (List.mem_of_getElem? (i := 7) rfl)))
  have Sd := Sta.start esd (Or.inr ⟨(hw _ (List.mem_of_getElem? (i := 26) rfl)), hsets _ (List.mem_of_getElem? (i := 2) rfl)⟩)
  obtain ⟨n, o, h1, h2, h3, _, L, rfl, ⟨rfl, N⟩, hq⟩ := c_law l s _ hw i0 i1 i2 i3 i4 s.heap s.heap.size (Nat.le_refl _) sd Sd tables_1 p e ha hc hk s m _ below hf ((Spec.applies_iff_loose hf).mp happ).1 ⟨rfl, State.Warmed39.refl s, rfl⟩ trivial
  refine ⟨n, _, h1, h2, h3, hpost _ _ _ _ _ _ ⟨Cond.after_iff.mpr rfl, Cond.after_iff.mpr (eq_i res_at (Term.int_eval (1)) rfl), trivial⟩ ⟨hq.1, hq.2.1, (hq.2.2.sift fun y hy => Or.inr (N y hy)).mono (by decide) (by decide)⟩⟩
theorem main_1_1 : Claimed_1_1 := comes_1 fun _ _ _ _ _ _ h hF => ⟨h.1, hF⟩
theorem main_1_2 : Claimed_1_2 := comes_1 fun _ _ _ _ _ _ h hF => ⟨h.2.1, hF⟩
end Jvm.Pilot.@@N@@
namespace Jvm.Pilot.@@N@@
open Jvm Jvm.ClassFile Sem Op Lib Jvm.Free Jvm.Stand Jvm.Pilot.@@N@@.Jvm.D
/-! MADE BY PROGRAM (witnessworld.py) out of the Statement's table words and the real class files: 22 classes; the members and pool entries that the words name. The judged class is class 1, her method 3. -/
namespace start1
open Jvm.ClassFile
def u (s : String) : CpInfo := .utf8 (stringToUtf16 s)
/-- a pool by its gaps: so many unusable entries, then the entry; so many at the end -/
def gap : Nat → List CpInfo → List CpInfo
  | 0, r => r
  | n + 1, r => .unusable :: gap n r
def poolList (es : List (Nat × CpInfo)) (last : Nat) : List CpInfo := es.foldr (fun e r => gap e.1 (e.2 :: r)) (gap last [])
def pool (es : List (Nat × CpInfo)) (last : Nat) : Array CpInfo := ⟨poolList es last⟩
def fileOf (pool : Array CpInfo) (this : Nat) (attrs : Array Attribute := #[]) (ms : Array MethodInfo := #[]) (fl : Nat := 33) (sup : Nat := 0) (ifs : Array Nat := #[]) (fds : Array FieldInfo := #[]) : ClassFile where
  minorVersion := 0
  majorVersion := 65
  constantPool := pool
  accessFlags := fl
  thisClass := this
  superClass := sup
  interfaces := ifs
  fields := fds
  methods := ms
  attributes := attrs
def plain (name : String) (sup : Option ClassId) : Class where
  name := name
  kind := .ordinary
  loader := none
  accessFlags := 33
  super := sup
  interfaces := #[]
  cf := none
  fields := #[]
  methods := #[]
  instanceTypes := #[]
  staticTypes := #[]
  resolved := #[]
  callSites := []
  init := .initialized
  statics := none
  mirror := none

def pool0 : Array CpInfo := pool [(5, u "<init>"), (0, u "()V"), (1, .class_ 10), (1, u "java/lang/Object")] 113

def k0c0 : Code := { maxStack := 0, maxLocals := 1, code := object_method_1_code, exceptionTable := #[], attributes := #[] }
def k0m0 : Method := { name := "<init>", desc := "()V", sig := { parameters := [], returnType := none }, accessFlags := 1, code := some k0c0 }
/-- java/lang/Object -/
def k0 : Class := { plain "java/lang/Object" none with
  accessFlags := 33
  interfaces := #[]
  cf := some (fileOf pool0 8 #[] #[{ accessFlags := 1, nameIndex := 5, descriptorIndex := 6, attributes := #[] }] 33 0 #[] #[])
  fields := #[]
  methods := #[k0m0]
  instanceTypes := #[]
  staticTypes := #[]
  resolved := Array.replicate 124 none
  statics := none }

def pool1 : Array CpInfo := pool [(2, .class_ 4), (0, .nameAndType 5 6), (0, u "java/lang/Object"), (0, u "<init>"), (0, u "()V"), (0, .integer 2147483647), (0, .methodref 9 10), (0, .class_ 11), (0, .nameAndType 12 13), (0, u "semblance/JpegCoefficientsReadQuantisationTablesPinLaw"), (0, u "size"), (0, u "(I)I"), (0, .methodref 9 15), (0, .nameAndType 16 17), (0, u "numberOk"), (0, u "(I)Z"), (0, .class_ 19), (0, u "semblance/JpegCoefficients"), (0, .methodref 18 3), (0, .methodref 18 22), (0, .nameAndType 23 24), (0, u "readQuantisationTables"), (0, u "([B)Z"), (3, u "law"), (0, u "(IIIII)Z")] 4

def k1m0 : Method := { name := "<init>", desc := "()V", sig := { parameters := [], returnType := none }, accessFlags := 2, code := none }
def k1c1 : Code := { maxStack := 2, maxLocals := 1, code := method_2_code, exceptionTable := #[], attributes := #[] }
def k1m1 : Method := { name := "size", desc := "(I)I", sig := { parameters := [.int], returnType := some .int }, accessFlags := 10, code := some k1c1 }
def k1c2 : Code := { maxStack := 2, maxLocals := 1, code := method_3_code, exceptionTable := #[], attributes := #[] }
def k1m2 : Method := { name := "numberOk", desc := "(I)Z", sig := { parameters := [.int], returnType := some .boolean }, accessFlags := 10, code := some k1c2 }
def k1c3 : Code := { maxStack := 3, maxLocals := 17, code := code, exceptionTable := #[], attributes := #[] }
def k1m3 : Method := { name := "law", desc := "(IIIII)Z", sig := { parameters := [.int, .int, .int, .int, .int], returnType := some .boolean }, accessFlags := 9, code := some k1c3 }
/-- semblance/JpegCoefficientsReadQuantisationTablesPinLaw -/
def k1 : Class := { plain "semblance/JpegCoefficientsReadQuantisationTablesPinLaw" (some 0) with
  accessFlags := 49
  interfaces := #[]
  cf := some (fileOf pool1 9 #[] #[{ accessFlags := 2, nameIndex := 5, descriptorIndex := 6, attributes := #[] }, { accessFlags := 10, nameIndex := 12, descriptorIndex := 13, attributes := #[] }, { accessFlags := 10, nameIndex := 16, descriptorIndex := 17, attributes := #[] }, { accessFlags := 9, nameIndex := 28, descriptorIndex := 29, attributes := #[] }] 49 2 #[] #[])
  fields := #[]
  methods := #[k1m0, k1m1, k1m2, k1m3]
  instanceTypes := #[]
  staticTypes := #[]
  resolved := Array.replicate 34 none
  statics := none }

def pool2 : Array CpInfo := pool [(7, .methodref 8 9), (0, .class_ 10), (0, .nameAndType 11 12), (0, u "java/lang/Object"), (0, u "<init>"), (0, u "()V"), (0, .class_ 14), (0, u "semblance/JpegCoefficients"), (0, .class_ 16), (0, u "semblance/JpegHuffmanTable"), (0, .fieldref 13 18), (0, .nameAndType 19 20), (0, u "dcTables"), (0, u "[Lsemblance/JpegHuffmanTable;"), (0, .fieldref 13 22), (0, .nameAndType 23 20), (0, u "acTables"), (0, .fieldref 13 25), (0, .nameAndType 26 27), (0, u "quantisation"), (0, u "[Z"), (0, .class_ 29), (0, u "java/util/ArrayList"), (0, .methodref 28 9), (0, .fieldref 13 32), (0, .nameAndType 33 34), (0, u "scans"), (0, u "Ljava/util/List;"), (12, u "restartInterval"), (0, u "I"), (2, u "frame"), (0, u "Lsemblance/JpegFrame;"), (32, u "blocks"), (0, u "[[[S"), (2, u "masks"), (0, u "[[[J"), (0, .class_ 92), (0, u "semblance/JpegCoefficients$Scan"), (13, .class_ 107), (0, u "semblance/JpegCoefficients$Undecodable"), (83, u "UNDECODABLE"), (0, u "Lsemblance/JpegCoefficients$Undecodable;"), (7, u "TABLES"), (2, u "COEFFICIENTS"), (1, u "MOST_IN_SCAN"), (0, u "MOST_IN_UNIT"), (1, u "MOST_FACTOR"), (0, u "PRECISION"), (1, u "FIRST_RESTART"), (1, u "RESTARTS"), (0, u "SEQUENTIAL"), (1, u "DC_FIRST"), (1, u "DC_REFINED"), (1, u "AC_FIRST"), (1, u "AC_REFINED"), (0, u "MOST_BYTES"), (1, u "AT_HAND"), (6, u "([B)Z"), (5, u "readQuantisationTables"), (29, .class_ 269), (0, u "semblance/JpegCoefficients$ScanHeader")] 28

def k2c0 : Code := { maxStack := 3, maxLocals := 1, code := prog_35_method_1_code, exceptionTable := #[], attributes := #[] }
def k2m0 : Method := { name := "<init>", desc := "()V", sig := { parameters := [], returnType := none }, accessFlags := 0, code := some k2c0 }
def k2c1 : Code := { maxStack := 3, maxLocals := 5, code := prog_35_method_3_code, exceptionTable := #[], attributes := #[] }
def k2m1 : Method := { name := "readQuantisationTables", desc := "([B)Z", sig := { parameters := [(.array .byte)], returnType := some .boolean }, accessFlags := 0, code := some k2c1 }
/-- semblance/JpegCoefficients -/
def k2 : Class := { plain "semblance/JpegCoefficients" (some 0) with
  accessFlags := 48
  interfaces := #[]
  cf := some (fileOf pool2 13 #[.nestMembers #[91, 268, 106]] #[{ accessFlags := 0, nameIndex := 11, descriptorIndex := 12, attributes := #[] }, { accessFlags := 0, nameIndex := 238, descriptorIndex := 232, attributes := #[] }] 48 8 #[] #[{ accessFlags := 26, nameIndex := 200, descriptorIndex := 48, attributes := #[] }, { accessFlags := 26, nameIndex := 203, descriptorIndex := 48, attributes := #[] }, { accessFlags := 26, nameIndex := 205, descriptorIndex := 48, attributes := #[] }, { accessFlags := 26, nameIndex := 206, descriptorIndex := 48, attributes := #[] }, { accessFlags := 26, nameIndex := 208, descriptorIndex := 48, attributes := #[] }, { accessFlags := 26, nameIndex := 209, descriptorIndex := 48, attributes := #[] }, { accessFlags := 26, nameIndex := 211, descriptorIndex := 48, attributes := #[] }, { accessFlags := 26, nameIndex := 213, descriptorIndex := 48, attributes := #[] }, { accessFlags := 26, nameIndex := 214, descriptorIndex := 48, attributes := #[] }, { accessFlags := 26, nameIndex := 216, descriptorIndex := 48, attributes := #[] }, { accessFlags := 26, nameIndex := 218, descriptorIndex := 48, attributes := #[] }, { accessFlags := 26, nameIndex := 220, descriptorIndex := 48, attributes := #[] }, { accessFlags := 26, nameIndex := 222, descriptorIndex := 48, attributes := #[] }, { accessFlags := 26, nameIndex := 223, descriptorIndex := 48, attributes := #[] }, { accessFlags := 26, nameIndex := 225, descriptorIndex := 48, attributes := #[] }, { accessFlags := 26, nameIndex := 191, descriptorIndex := 192, attributes := #[] }, { accessFlags := 18, nameIndex := 19, descriptorIndex := 20, attributes := #[] }, { accessFlags := 18, nameIndex := 23, descriptorIndex := 20, attributes := #[] }, { accessFlags := 18, nameIndex := 26, descriptorIndex := 27, attributes := #[] }, { accessFlags := 2, nameIndex := 47, descriptorIndex := 48, attributes := #[] }, { accessFlags := 2, nameIndex := 51, descriptorIndex := 52, attributes := #[] }, { accessFlags := 18, nameIndex := 33, descriptorIndex := 34, attributes := #[] }, { accessFlags := 2, nameIndex := 85, descriptorIndex := 86, attributes := #[] }, { accessFlags := 2, nameIndex := 89, descriptorIndex := 90, attributes := #[] }])
  fields := #[{ name := "TABLES", type := .int, accessFlags := 26, slot := 0, constantValue := 0 }, { name := "COEFFICIENTS", type := .int, accessFlags := 26, slot := 1, constantValue := 0 }, { name := "MOST_IN_SCAN", type := .int, accessFlags := 26, slot := 2, constantValue := 0 }, { name := "MOST_IN_UNIT", type := .int, accessFlags := 26, slot := 3, constantValue := 0 }, { name := "MOST_FACTOR", type := .int, accessFlags := 26, slot := 4, constantValue := 0 }, { name := "PRECISION", type := .int, accessFlags := 26, slot := 5, constantValue := 0 }, { name := "FIRST_RESTART", type := .int, accessFlags := 26, slot := 6, constantValue := 0 }, { name := "RESTARTS", type := .int, accessFlags := 26, slot := 7, constantValue := 0 }, { name := "SEQUENTIAL", type := .int, accessFlags := 26, slot := 8, constantValue := 0 }, { name := "DC_FIRST", type := .int, accessFlags := 26, slot := 9, constantValue := 0 }, { name := "DC_REFINED", type := .int, accessFlags := 26, slot := 10, constantValue := 0 }, { name := "AC_FIRST", type := .int, accessFlags := 26, slot := 11, constantValue := 0 }, { name := "AC_REFINED", type := .int, accessFlags := 26, slot := 12, constantValue := 0 }, { name := "MOST_BYTES", type := .int, accessFlags := 26, slot := 13, constantValue := 0 }, { name := "AT_HAND", type := .int, accessFlags := 26, slot := 14, constantValue := 0 }, { name := "UNDECODABLE", type := (.object "semblance/JpegCoefficients$Undecodable"), accessFlags := 26, slot := 15, constantValue := 0 }, { name := "dcTables", type := (.array (.object "semblance/JpegHuffmanTable")), accessFlags := 18, slot := 0, constantValue := 0 }, { name := "acTables", type := (.array (.object "semblance/JpegHuffmanTable")), accessFlags := 18, slot := 1, constantValue := 0 }, { name := "quantisation", type := (.array .boolean), accessFlags := 18, slot := 2, constantValue := 0 }, { name := "restartInterval", type := .int, accessFlags := 2, slot := 3, constantValue := 0 }, { name := "frame", type := (.object "semblance/JpegFrame"), accessFlags := 2, slot := 4, constantValue := 0 }, { name := "scans", type := (.object "java/util/List"), accessFlags := 18, slot := 5, constantValue := 0 }, { name := "blocks", type := (.array (.array (.array .short))), accessFlags := 2, slot := 6, constantValue := 0 }, { name := "masks", type := (.array (.array (.array .long))), accessFlags := 2, slot := 7, constantValue := 0 }]
  methods := #[k2m0, k2m1]
  instanceTypes := #[(.array (.object "semblance/JpegHuffmanTable")), (.array (.object "semblance/JpegHuffmanTable")), (.array .boolean), .int, (.object "semblance/JpegFrame"), (.object "java/util/List"), (.array (.array (.array .short))), (.array (.array (.array .long)))]
  staticTypes := #[.int, .int, .int, .int, .int, .int, .int, .int, .int, .int, .int, .int, .int, .int, .int, (.object "semblance/JpegCoefficients$Undecodable")]
  resolved := Array.replicate 298 none
  statics := none }

def pool3 : Array CpInfo := pool [(2, .class_ 4), (1, u "java/lang/Object"), (2, .class_ 8), (0, u "semblance/JpegHuffmanTable"), (2, u "lookup"), (0, u "[I"), (2, u "lookupWithValue"), (2, u "lastCode"), (2, u "symbolOffset"), (2, u "codes"), (2, u "lengths"), (2, u "counts"), (2, u "symbols"), (63, u "LONGEST"), (0, u "I"), (2, u "SYMBOLS"), (1, u "HIGHEST_DC"), (1, u "LOOKAHEAD")] 47

/-- semblance/JpegHuffmanTable -/
def k3 : Class := { plain "semblance/JpegHuffmanTable" (some 0) with
  accessFlags := 48
  interfaces := #[]
  cf := some (fileOf pool3 7 #[] #[] 48 2 #[] #[{ accessFlags := 24, nameIndex := 97, descriptorIndex := 98, attributes := #[] }, { accessFlags := 26, nameIndex := 101, descriptorIndex := 98, attributes := #[] }, { accessFlags := 26, nameIndex := 103, descriptorIndex := 98, attributes := #[] }, { accessFlags := 24, nameIndex := 105, descriptorIndex := 98, attributes := #[] }, { accessFlags := 18, nameIndex := 30, descriptorIndex := 12, attributes := #[] }, { accessFlags := 18, nameIndex := 33, descriptorIndex := 12, attributes := #[] }, { accessFlags := 18, nameIndex := 11, descriptorIndex := 12, attributes := #[] }, { accessFlags := 18, nameIndex := 15, descriptorIndex := 12, attributes := #[] }, { accessFlags := 18, nameIndex := 18, descriptorIndex := 12, attributes := #[] }, { accessFlags := 18, nameIndex := 21, descriptorIndex := 12, attributes := #[] }, { accessFlags := 18, nameIndex := 24, descriptorIndex := 12, attributes := #[] }, { accessFlags := 18, nameIndex := 27, descriptorIndex := 12, attributes := #[] }])
  fields := #[{ name := "LONGEST", type := .int, accessFlags := 24, slot := 0, constantValue := 0 }, { name := "SYMBOLS", type := .int, accessFlags := 26, slot := 1, constantValue := 0 }, { name := "HIGHEST_DC", type := .int, accessFlags := 26, slot := 2, constantValue := 0 }, { name := "LOOKAHEAD", type := .int, accessFlags := 24, slot := 3, constantValue := 0 }, { name := "counts", type := (.array .int), accessFlags := 18, slot := 0, constantValue := 0 }, { name := "symbols", type := (.array .int), accessFlags := 18, slot := 1, constantValue := 0 }, { name := "lookup", type := (.array .int), accessFlags := 18, slot := 2, constantValue := 0 }, { name := "lookupWithValue", type := (.array .int), accessFlags := 18, slot := 3, constantValue := 0 }, { name := "lastCode", type := (.array .int), accessFlags := 18, slot := 4, constantValue := 0 }, { name := "symbolOffset", type := (.array .int), accessFlags := 18, slot := 5, constantValue := 0 }, { name := "codes", type := (.array .int), accessFlags := 18, slot := 6, constantValue := 0 }, { name := "lengths", type := (.array .int), accessFlags := 18, slot := 7, constantValue := 0 }]
  methods := #[]
  instanceTypes := #[(.array .int), (.array .int), (.array .int), (.array .int), (.array .int), (.array .int), (.array .int), (.array .int)]
  staticTypes := #[.int, .int, .int, .int]
  resolved := Array.replicate 153 none
  statics := none }

def pool4 : Array CpInfo := pool [(8, .class_ 10), (1, u "java/lang/Iterable"), (24, .class_ 36), (0, u "java/lang/Object")] 25

/-- java/lang/Iterable -/
def k4 : Class := { plain "java/lang/Iterable" (some 0) with
  accessFlags := 1537
  interfaces := #[]
  cf := some (fileOf pool4 8 #[] #[] 1537 35 #[] #[])
  fields := #[]
  methods := #[]
  instanceTypes := #[]
  staticTypes := #[]
  resolved := Array.replicate 62 none
  statics := none }

def pool5 : Array CpInfo := pool [(10, .class_ 12), (1, u "java/util/Collection"), (47, .class_ 61), (0, u "java/lang/Object"), (0, .class_ 63), (0, u "java/lang/Iterable")] 51

/-- java/util/Collection -/
def k5 : Class := { plain "java/util/Collection" (some 0) with
  accessFlags := 1537
  interfaces := #[4]
  cf := some (fileOf pool5 10 #[] #[] 1537 60 #[62] #[])
  fields := #[]
  methods := #[]
  instanceTypes := #[]
  staticTypes := #[]
  resolved := Array.replicate 115 none
  statics := none }

def pool6 : Array CpInfo := pool [(1, .methodref 2 3), (0, .class_ 4), (0, .nameAndType 5 6), (0, u "java/lang/Object"), (0, u "<init>"), (0, u "()V"), (1, .class_ 10), (1, u "java/util/AbstractCollection"), (66, .class_ 78), (0, u "java/util/Collection")] 81

def k6c0 : Code := { maxStack := 1, maxLocals := 1, code := jdk_22_method_1_code, exceptionTable := #[], attributes := #[] }
def k6m0 : Method := { name := "<init>", desc := "()V", sig := { parameters := [], returnType := none }, accessFlags := 4, code := some k6c0 }
/-- java/util/AbstractCollection -/
def k6 : Class := { plain "java/util/AbstractCollection" (some 0) with
  accessFlags := 1057
  interfaces := #[5]
  cf := some (fileOf pool6 8 #[] #[{ accessFlags := 4, nameIndex := 5, descriptorIndex := 6, attributes := #[] }] 1057 2 #[77] #[])
  fields := #[]
  methods := #[k6m0]
  instanceTypes := #[]
  staticTypes := #[]
  resolved := Array.replicate 160 none
  statics := none }

def pool7 : Array CpInfo := pool [(8, .class_ 10), (1, u "java/util/SequencedCollection"), (15, .class_ 27), (0, u "java/lang/Object"), (0, .class_ 29), (0, u "java/util/Collection")] 27

/-- java/util/SequencedCollection -/
def k7 : Class := { plain "java/util/SequencedCollection" (some 0) with
  accessFlags := 1537
  interfaces := #[5]
  cf := some (fileOf pool7 8 #[] #[] 1537 26 #[28] #[])
  fields := #[]
  methods := #[]
  instanceTypes := #[]
  staticTypes := #[]
  resolved := Array.replicate 57 none
  statics := none }

def pool8 : Array CpInfo := pool [(8, .class_ 10), (1, u "java/util/List"), (92, .class_ 104), (0, u "java/lang/Object"), (15, .class_ 121), (0, u "java/util/SequencedCollection")] 129

/-- java/util/List -/
def k8 : Class := { plain "java/util/List" (some 0) with
  accessFlags := 1537
  interfaces := #[7]
  cf := some (fileOf pool8 8 #[] #[] 1537 103 #[120] #[])
  fields := #[]
  methods := #[]
  instanceTypes := #[]
  staticTypes := #[]
  resolved := Array.replicate 251 none
  statics := none }

def pool9 : Array CpInfo := pool [(1, .methodref 2 3), (0, .class_ 4), (0, .nameAndType 5 6), (0, u "java/util/AbstractCollection"), (0, u "<init>"), (0, u "()V"), (0, .fieldref 8 9), (0, .class_ 10), (0, .nameAndType 11 12), (0, u "java/util/AbstractList"), (0, u "modCount"), (0, u "I"), (64, .class_ 78), (0, u "java/util/AbstractList$Itr"), (3, .class_ 83), (0, u "java/util/AbstractList$ListItr"), (9, .class_ 94), (0, u "java/util/AbstractList$RandomAccessSubList"), (3, .class_ 99), (0, u "java/util/AbstractList$SubList"), (33, .class_ 134), (0, u "java/util/List"), (73, .class_ 209), (0, u "java/util/AbstractList$SubList$1"), (0, .class_ 211), (0, u "java/util/AbstractList$RandomAccessSpliterator")] 6

def k9c0 : Code := { maxStack := 2, maxLocals := 1, code := jdk_39_method_1_code, exceptionTable := #[], attributes := #[] }
def k9m0 : Method := { name := "<init>", desc := "()V", sig := { parameters := [], returnType := none }, accessFlags := 4, code := some k9c0 }
/-- java/util/AbstractList -/
def k9 : Class := { plain "java/util/AbstractList" (some 6) with
  accessFlags := 1057
  interfaces := #[8]
  cf := some (fileOf pool9 8 #[.nestMembers #[93, 98, 208, 210, 82, 77]] #[{ accessFlags := 4, nameIndex := 5, descriptorIndex := 6, attributes := #[] }] 1057 2 #[133] #[{ accessFlags := 132, nameIndex := 11, descriptorIndex := 12, attributes := #[] }])
  fields := #[{ name := "modCount", type := .int, accessFlags := 132, slot := 0, constantValue := 0 }]
  methods := #[k9m0]
  instanceTypes := #[.int]
  staticTypes := #[]
  resolved := Array.replicate 218 none
  statics := none }

def pool10 : Array CpInfo := pool [(1, .class_ 2), (0, u "java/util/RandomAccess"), (0, .class_ 4), (0, u "java/lang/Object")] 2

/-- java/util/RandomAccess -/
def k10 : Class := { plain "java/util/RandomAccess" (some 0) with
  accessFlags := 1537
  interfaces := #[]
  cf := some (fileOf pool10 1 #[] #[] 1537 3 #[] #[])
  fields := #[]
  methods := #[]
  instanceTypes := #[]
  staticTypes := #[]
  resolved := Array.replicate 7 none
  statics := none }

def pool11 : Array CpInfo := pool [(1, .class_ 2), (0, u "java/lang/Cloneable"), (0, .class_ 4), (0, u "java/lang/Object")] 2

/-- java/lang/Cloneable -/
def k11 : Class := { plain "java/lang/Cloneable" (some 0) with
  accessFlags := 1537
  interfaces := #[]
  cf := some (fileOf pool11 1 #[] #[] 1537 3 #[] #[])
  fields := #[]
  methods := #[]
  instanceTypes := #[]
  staticTypes := #[]
  resolved := Array.replicate 7 none
  statics := none }

def pool12 : Array CpInfo := pool [(1, .class_ 2), (0, u "java/io/Serializable"), (0, .class_ 4), (0, u "java/lang/Object")] 2

/-- java/io/Serializable -/
def k12 : Class := { plain "java/io/Serializable" (some 0) with
  accessFlags := 1537
  interfaces := #[]
  cf := some (fileOf pool12 1 #[] #[] 1537 3 #[] #[])
  fields := #[]
  methods := #[]
  instanceTypes := #[]
  staticTypes := #[]
  resolved := Array.replicate 7 none
  statics := none }

def pool13 : Array CpInfo := pool [(1, .methodref 2 3), (0, .class_ 4), (0, .nameAndType 5 6), (0, u "java/util/AbstractList"), (0, u "<init>"), (0, u "()V"), (2, .fieldref 10 11), (0, .class_ 12), (0, .nameAndType 13 14), (0, u "java/util/ArrayList"), (0, u "elementData"), (0, u "[Ljava/lang/Object;"), (2, u "EMPTY_ELEMENTDATA"), (21, .fieldref 10 40), (0, .nameAndType 41 14), (0, u "DEFAULTCAPACITY_EMPTY_ELEMENTDATA"), (8, u "size"), (0, u "I"), (96, .class_ 149), (0, u "java/util/List"), (112, .class_ 263), (0, u "java/util/ArrayList$ListItr"), (3, .class_ 268), (0, u "java/util/ArrayList$Itr"), (7, .class_ 277), (0, u "java/util/ArrayList$SubList"), (12, .class_ 291), (0, u "java/util/ArrayList$ArrayListSpliterator"), (37, .class_ 330), (0, u "java/util/RandomAccess"), (0, .class_ 332), (0, u "java/lang/Cloneable"), (0, .class_ 334), (0, u "java/io/Serializable"), (0, u "serialVersionUID"), (0, u "J"), (3, u "DEFAULT_CAPACITY"), (159, .class_ 501), (0, u "java/util/ArrayList$SubList$2"), (0, .class_ 503), (0, u "java/util/ArrayList$SubList$1")] 5

def k13c0 : Code := { maxStack := 2, maxLocals := 1, code := jdk_38_method_2_code, exceptionTable := #[], attributes := #[] }
def k13m0 : Method := { name := "<init>", desc := "()V", sig := { parameters := [], returnType := none }, accessFlags := 1, code := some k13c0 }
/-- java/util/ArrayList -/
def k13 : Class := { plain "java/util/ArrayList" (some 9) with
  accessFlags := 33
  interfaces := #[8, 10, 11, 12]
  cf := some (fileOf pool13 10 #[.nestMembers #[290, 276, 500, 502, 262, 267]] #[{ accessFlags := 1, nameIndex := 5, descriptorIndex := 6, attributes := #[] }] 33 2 #[148, 329, 331, 333] #[{ accessFlags := 26, nameIndex := 335, descriptorIndex := 336, attributes := #[] }, { accessFlags := 26, nameIndex := 340, descriptorIndex := 51, attributes := #[] }, { accessFlags := 26, nameIndex := 17, descriptorIndex := 14, attributes := #[] }, { accessFlags := 26, nameIndex := 41, descriptorIndex := 14, attributes := #[] }, { accessFlags := 128, nameIndex := 13, descriptorIndex := 14, attributes := #[] }, { accessFlags := 2, nameIndex := 50, descriptorIndex := 51, attributes := #[] }])
  fields := #[{ name := "serialVersionUID", type := .long, accessFlags := 26, slot := 0, constantValue := 0 }, { name := "DEFAULT_CAPACITY", type := .int, accessFlags := 26, slot := 1, constantValue := 0 }, { name := "EMPTY_ELEMENTDATA", type := (.array (.object "java/lang/Object")), accessFlags := 26, slot := 2, constantValue := 0 }, { name := "DEFAULTCAPACITY_EMPTY_ELEMENTDATA", type := (.array (.object "java/lang/Object")), accessFlags := 26, slot := 3, constantValue := 0 }, { name := "elementData", type := (.array (.object "java/lang/Object")), accessFlags := 128, slot := 1, constantValue := 0 }, { name := "size", type := .int, accessFlags := 2, slot := 2, constantValue := 0 }]
  methods := #[k13m0]
  instanceTypes := #[.int, (.array (.object "java/lang/Object")), .int]
  staticTypes := #[.long, .int, (.array (.object "java/lang/Object")), (.array (.object "java/lang/Object"))]
  resolved := Array.replicate 509 none
  statics := some 0 }

/-- the primitive boolean -/
def k14 : Class := { plain "boolean" none with kind := .primitive 'Z', accessFlags := 0x411 }
/-- [Z -/
def k15 : Class := { plain "[Z" (some 0) with kind := .array 14 .boolean, interfaces := #[11, 12], accessFlags := 1041 }

/-- the primitive byte -/
def k16 : Class := { plain "byte" none with kind := .primitive 'B', accessFlags := 0x411 }
/-- [B -/
def k17 : Class := { plain "[B" (some 0) with kind := .array 16 .byte, interfaces := #[11, 12], accessFlags := 1041 }

/-- the primitive int -/
def k18 : Class := { plain "int" none with kind := .primitive 'I', accessFlags := 0x411 }
/-- [I -/
def k19 : Class := { plain "[I" (some 0) with kind := .array 18 .int, interfaces := #[11, 12], accessFlags := 1041 }

/-- [Ljava/lang/Object; -/
def k20 : Class := { plain "[Ljava/lang/Object;" (some 0) with kind := .array 0 (.object "java/lang/Object"), interfaces := #[11, 12], accessFlags := 1041 }

/-- [Lsemblance/JpegHuffmanTable; -/
def k21 : Class := { plain "[Lsemblance/JpegHuffmanTable;" (some 0) with kind := .array 3 (.object "semblance/JpegHuffmanTable"), interfaces := #[11, 12], accessFlags := 1041 }

def heap : Heap := #[{ cls := 13, slots := #[.long 0, .int 0, .ref 1, .ref 2], vm := .statics 13 },
  { cls := 20, slots := #[], vm := .none },
  { cls := 20, slots := #[], vm := .none }]
def classes : Array Class := #[k0, k1, k2, k3, k4, k5, k6, k7, k8, k9, k10, k11, k12, k13, k14, k15, k16, k17, k18, k19, k20, k21]
def interned : List (Array UInt16 × Addr) := []
def slotsUsed : Nat := 4
def theMethod : MethodId := ⟨1, 3⟩
def args0 : Array Value := #[.int 3, .int 4, .int 5, .int 7, .int 9]
def aboutOver (below : List Frame) : State where
  vm := { classes := classes, interned := interned.toArray }
  heap := heap
  slotsUsed := slotsUsed
  threads := #[{ frames := .invoking theMethod args0 :: below }]
def below0 : List Frame := [.native { method := ⟨0, 0⟩, args := #[] }]
def about1 : State := aboutOver below0
def p0 : Program := .bare "" "" ""
def e0 : Env := launch0.env 0 0 0
theorem w_frames : about1.frames = Frame.invoking theMethod args0 :: below0 := rfl
set_option maxRecDepth 65536 in
theorem w_args : argsFit about1.vm theMethod args0 = true := by decide +kernel
set_option maxRecDepth 65536 in
theorem w_heap : heapFits about1 = true := by decide +kernel
set_option maxRecDepth 65536 in
theorem w_runnable : about1.curStatus? = some .runnable := by decide +kernel
set_option maxRecDepth 65536 in
theorem w_alone : about1.alone = true := by decide +kernel
set_option maxRecDepth 65536 in
theorem w_named : about1.methodNamed? x = some theMethod := by decide +kernel
set_option maxRecDepth 65536 in
theorem w_hears : about1.hears theMethod below0 = true := by decide +kernel
set_option maxRecDepth 65536 in
theorem w_ripe : about1.ripe theMethod args0 below0 = true := by decide +kernel
theorem w_running : about1.status = .running := rfl
set_option maxRecDepth 65536 in
theorem w_room : about1.hasRoom e0.platform room_1 = true :=
  launch0.hasRoom_least _ room_1 (by decide +kernel) (by decide +kernel) (by decide +kernel) (by decide +kernel) (by decide +kernel) (by decide +kernel)
theorem allAtoms_all (ts : List Jvm.Cond) (a : Array Jvm.Value) (st : Jvm.State) : (allAtoms ts).before a st = ts.all (fun c => c.before a st) := by
  induction ts with
  | nil => rfl
  | cons c t ih =>
    show (Jvm.Cond.and c (allAtoms t)).before a st = _
    rw [Jvm.Cond.before_and, ih, List.all_cons]
def words1 : List Jvm.Cond := Jvm.Cond.code x code maxLocals ret :: tables_1
/-- a 'code' word, met by the world's own term for the bytes: nothing is compared byte by byte -/
theorem code_word {y : MethodName} {bytes : ByteArray} {mx : Nat} {rt : Option FieldType} {a : Array Value} {s : State} {m : MethodId} {meth : Method} {c : Code} (h1 : s.methodNamed? y = some m) (h2 : s.vm.method? m = some meth) (h3 : meth.code = some c) (h4 : c.code = bytes)
    (h5 : (c.maxLocals == mx && c.exceptionTable.isEmpty && decide (c.maxStack ≤ mostOperands) && decide (meth.sig.returnType = rt) && !meth.locks && decide (parseMethodDescriptor y.desc = some meth.sig)) = true) : (Jvm.Cond.code y bytes mx rt).before a s = true := by
  simp only [Bool.and_eq_true, beq_iff_eq, Bool.not_eq_true', decide_eq_true_eq] at h5
  obtain ⟨⟨⟨⟨⟨g1, g2⟩, g3⟩, g4⟩, g5⟩, g6⟩ := h5
  simp [Cond.before, Cond.holds, Cond.value, h1, h2, h3, h4, g1, g2, g3, g4, g5, g6]
def isCode : Jvm.Cond → Bool
  | .code _ _ _ _ => true
  | _ => false
theorem all_split {L : List Jvm.Cond} {P : Jvm.Cond → Bool} (h1 : L.all (fun c => isCode c || P c) = true) (h2 : ∀ c ∈ L.filter isCode, P c = true) : L.all P = true := by
  refine List.all_eq_true.mpr fun c hc => ?_
  have h := List.all_eq_true.mp h1 c hc
  rcases Bool.eq_false_or_eq_true (isCode c) with hi | hi
  · exact h2 c (List.mem_filter.mpr ⟨hc, hi⟩)
  · simpa [hi] using h
set_option maxRecDepth 65536 in
theorem w_c0 : (Jvm.Cond.code x code maxLocals ret).before args0 about1 = true := code_word (m := ⟨1, 3⟩) (meth := k1m3) (c := k1c3) (by decide +kernel) rfl rfl rfl (by decide +kernel)
set_option maxRecDepth 65536 in
theorem w_c1 : (Jvm.Cond.code ({ cls := "semblance/JpegCoefficientsReadQuantisationTablesPinLaw", name := "size", desc := "(I)I" } : Jvm.MethodName) method_2_code (1 : Nat) (Option.some Jvm.ClassFile.FieldType.int)).before args0 about1 = true := code_word (m := ⟨1, 1⟩) (meth := k1m1) (c := k1c1) (by decide +kernel) rfl rfl rfl (by decide +kernel)
set_option maxRecDepth 65536 in
theorem w_c2 : (Jvm.Cond.code ({ cls := "semblance/JpegCoefficients", name := "<init>", desc := "()V" } : Jvm.MethodName) prog_35_method_1_code (1 : Nat) (Option.none : Option Jvm.ClassFile.FieldType)).before args0 about1 = true := code_word (m := ⟨2, 0⟩) (meth := k2m0) (c := k2c0) (by decide +kernel) rfl rfl rfl (by decide +kernel)
set_option maxRecDepth 65536 in
theorem w_c3 : (Jvm.Cond.code ({ cls := "java/lang/Object", name := "<init>", desc := "()V" } : Jvm.MethodName) object_method_1_code (1 : Nat) (Option.none : Option Jvm.ClassFile.FieldType)).before args0 about1 = true := code_word (m := ⟨0, 0⟩) (meth := k0m0) (c := k0c0) (by decide +kernel) rfl rfl rfl (by decide +kernel)
set_option maxRecDepth 65536 in
theorem w_c4 : (Jvm.Cond.code ({ cls := "java/util/ArrayList", name := "<init>", desc := "()V" } : Jvm.MethodName) jdk_38_method_2_code (1 : Nat) (Option.none : Option Jvm.ClassFile.FieldType)).before args0 about1 = true := code_word (m := ⟨13, 0⟩) (meth := k13m0) (c := k13c0) (by decide +kernel) rfl rfl rfl (by decide +kernel)
set_option maxRecDepth 65536 in
theorem w_c5 : (Jvm.Cond.code ({ cls := "java/util/AbstractList", name := "<init>", desc := "()V" } : Jvm.MethodName) jdk_39_method_1_code (1 : Nat) (Option.none : Option Jvm.ClassFile.FieldType)).before args0 about1 = true := code_word (m := ⟨9, 0⟩) (meth := k9m0) (c := k9c0) (by decide +kernel) rfl rfl rfl (by decide +kernel)
set_option maxRecDepth 65536 in
theorem w_c6 : (Jvm.Cond.code ({ cls := "java/util/AbstractCollection", name := "<init>", desc := "()V" } : Jvm.MethodName) jdk_22_method_1_code (1 : Nat) (Option.none : Option Jvm.ClassFile.FieldType)).before args0 about1 = true := code_word (m := ⟨6, 0⟩) (meth := k6m0) (c := k6c0) (by decide +kernel) rfl rfl rfl (by decide +kernel)
set_option maxRecDepth 65536 in
theorem w_c7 : (Jvm.Cond.code ({ cls := "semblance/JpegCoefficients", name := "readQuantisationTables", desc := "([B)Z" } : Jvm.MethodName) prog_35_method_3_code (5 : Nat) (Option.some Jvm.ClassFile.FieldType.boolean)).before args0 about1 = true := code_word (m := ⟨2, 1⟩) (meth := k2m1) (c := k2c1) (by decide +kernel) rfl rfl rfl (by decide +kernel)
set_option maxRecDepth 65536 in
theorem w_c8 : (Jvm.Cond.code ({ cls := "semblance/JpegCoefficientsReadQuantisationTablesPinLaw", name := "numberOk", desc := "(I)Z" } : Jvm.MethodName) method_3_code (1 : Nat) (Option.some Jvm.ClassFile.FieldType.boolean)).before args0 about1 = true := code_word (m := ⟨1, 2⟩) (meth := k1m2) (c := k1c2) (by decide +kernel) rfl rfl rfl (by decide +kernel)
def codes1 : List Jvm.Cond := [Jvm.Cond.code x code maxLocals ret, Jvm.Cond.code ({ cls := "semblance/JpegCoefficientsReadQuantisationTablesPinLaw", name := "size", desc := "(I)I" } : Jvm.MethodName) method_2_code (1 : Nat) (Option.some Jvm.ClassFile.FieldType.int), Jvm.Cond.code ({ cls := "semblance/JpegCoefficients", name := "<init>", desc := "()V" } : Jvm.MethodName) prog_35_method_1_code (1 : Nat) (Option.none : Option Jvm.ClassFile.FieldType), Jvm.Cond.code ({ cls := "java/lang/Object", name := "<init>", desc := "()V" } : Jvm.MethodName) object_method_1_code (1 : Nat) (Option.none : Option Jvm.ClassFile.FieldType), Jvm.Cond.code ({ cls := "java/util/ArrayList", name := "<init>", desc := "()V" } : Jvm.MethodName) jdk_38_method_2_code (1 : Nat) (Option.none : Option Jvm.ClassFile.FieldType), Jvm.Cond.code ({ cls := "java/util/AbstractList", name := "<init>", desc := "()V" } : Jvm.MethodName) jdk_39_method_1_code (1 : Nat) (Option.none : Option Jvm.ClassFile.FieldType), Jvm.Cond.code ({ cls := "java/util/AbstractCollection", name := "<init>", desc := "()V" } : Jvm.MethodName) jdk_22_method_1_code (1 : Nat) (Option.none : Option Jvm.ClassFile.FieldType), Jvm.Cond.code ({ cls := "semblance/JpegCoefficients", name := "readQuantisationTables", desc := "([B)Z" } : Jvm.MethodName) prog_35_method_3_code (5 : Nat) (Option.some Jvm.ClassFile.FieldType.boolean), Jvm.Cond.code ({ cls := "semblance/JpegCoefficientsReadQuantisationTablesPinLaw", name := "numberOk", desc := "(I)Z" } : Jvm.MethodName) method_3_code (1 : Nat) (Option.some Jvm.ClassFile.FieldType.boolean)]
set_option maxRecDepth 65536 in
theorem codes_eq : words1.filter isCode = codes1 := rfl
theorem w_codes : ∀ c ∈ words1.filter isCode, c.before args0 about1 = true := by
  rw [codes_eq]
  intro c hc
  simp only [codes1, List.mem_cons, List.not_mem_nil, or_false] at hc
  rcases hc with rfl | rfl | rfl | rfl | rfl | rfl | rfl | rfl | rfl
  · exact w_c0
  · exact w_c1
  · exact w_c2
  · exact w_c3
  · exact w_c4
  · exact w_c5
  · exact w_c6
  · exact w_c7
  · exact w_c8
set_option maxRecDepth 65536 in
theorem w_t1 : (words1.take 24).all (fun c => isCode c || c.before args0 about1) = true := by decide +kernel
set_option maxRecDepth 65536 in
theorem w_t2 : ((words1.drop 24).take 24).all (fun c => isCode c || c.before args0 about1) = true := by decide +kernel
set_option maxRecDepth 65536 in
theorem w_t3 : ((words1.drop 24).drop 24).all (fun c => isCode c || c.before args0 about1) = true := by decide +kernel
theorem w_tables : (allAtoms (Jvm.Cond.code x code maxLocals ret :: tables_1)).before args0 about1 = true := by
  rw [allAtoms_all]
  show words1.all (fun c => c.before args0 about1) = true
  refine all_split ?_ w_codes
  rw [← List.take_append_drop 24 words1, List.all_append, w_t1, ← List.take_append_drop 24 (words1.drop 24), List.all_append, w_t2, w_t3]
  rfl
set_option maxRecDepth 65536 in
theorem w_rest : rest_1_c.before args0 about1 = true := by decide +kernel
set_option maxRecDepth 65536 in
theorem w_case : (Jvm.Cond.and given_1 narrow_1).before args0 about1 = true := by decide +kernel
theorem w_applies : (headSpec (Jvm.Cond.code x code maxLocals ret :: tables_1) room_1).applies x e0.platform about1 = true :=
  (Spec.applies_iff w_frames).mpr ⟨w_running, w_runnable, w_alone, w_named, w_hears, w_ripe, w_room, w_tables⟩
theorem atStart : AtStart classFile x code maxLocals ret World_1 tables_1 room_1 Calls_1 rest_1 Pre_1 launch0 p0 e0 about1 theMethod args0 below0 :=
  ⟨lists_1, trivial, launch0.admits_env _ _ _, launch0.least_env, fairChoices_fair.cas, fairChoices_fair.clock, w_frames, w_args, w_heap, w_applies, trivial, w_rest, w_case⟩
end start1
theorem witness_1 : WitnessClaimed_1 := ⟨start1.p0, start1.e0, start1.about1, start1.theMethod, start1.args0, start1.below0, start1.atStart⟩
end Jvm.Pilot.@@N@@
