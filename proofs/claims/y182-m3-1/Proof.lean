import JvmDerived
import JvmDerived.Pilot.@@N@@Statement
import JvmDerived.Pilot.@@N@@Code
set_option linter.unusedVariables false
set_option linter.unusedSimpArgs false
namespace Jvm.OwnRun
open Sem ClassFile Op Lib Jvm.Stand Jvm.Free Jvm.LawKit Jvm.RoadKit
def FE : Bool → State → Outcome → State → List Loc → Nat → Nat → Prop
  | true, s, o, t, L, k, n => FrameEnd s o t L k n
  | false, s, o, t, L, k, n => ReturnedEndW s o t L k n
/-- the run that stands at A comes to the end of this invocation, and Q holds there -/
def Run {bb : Bool} (p : Program) (e : Env) (below : List Frame) (s : State) (Q : Option Value → Heap → List Loc → Prop) (k n : Nat) (A : State) : Prop :=
  ∃ s₂ o, Steps p.tables e below A s₂ ∧ s₂.status = .running ∧ Ended s₂ below o ∧ ∃ v L, o = .returned v ∧ Q v s₂.heap L ∧ FE bb s o s₂ L k n
/-- the contract of a body at one heap and one row of arguments -/
def Ctr (l : Launch) (Z : State) (y : MethodName) (bytes : ByteArray) (ml : Nat) (ret : Option FieldType) (rm : Room) (as' : Array Value) (h0 : Heap) (Q : Option Value → Heap → List Loc → Prop) : Prop :=
  ∀ ws : List Jvm.Cond, MetFree l y (head1 (Jvm.Cond.code y bytes ml ret :: ws) rm) (fun a U => a = as' ∧ Z.Warmed39 U.vm ∧ U.heap = h0) (fun _ _ _ _ _ => True) (fun _ U o U' => ∃ v L, o = .returned v ∧ Q v U'.heap L ∧ FrameEnd U o U' L rm.cells rm.slots)
section Laws
variable {p : Program} {l : Launch} {e : Env} {R : Room} {s : State} {m : MethodId} {args : Array Value} {below : List Frame} {meth : Method} {c : Code} {T : State} {locs : List Loc} {cells slots : Nat} {Z : State} {a0 : Array Value} {h h' : Heap}
variable {Q Q' : Option Value → Heap → List Loc → Prop} {k n : Nat} {bb : Bool}
theorem Run.st {A B : State} (f : ∀ t, Steps p.tables e below B t → Steps p.tables e below A t) (r : Run (bb := bb) p e below s Q k n B) : Run (bb := bb) p e below s Q k n A := by
  obtain ⟨s₂, o, h1, r⟩ := r
  exact ⟨s₂, o, f _ h1, r⟩
theorem Ctr.of {y : MethodName} {bytes : ByteArray} {ml : Nat} {ret : Option FieldType} {rm : Room} {as' : Array Value} {h0 : Heap} {Ls : Array Slot} (hpl : plainFor y = true) (hef : ∀ m, entryFrame m as' ml = mkF m 0 Ls [])
    (body : ∀ (p : Program) (e : Env) (s : State) (m : MethodId) (below : List Frame) (meth : Method) (c : Code) (T : State), p.tables.exec = Jvm.exec → c.code = bytes → c.maxLocals = ml → s.vm.findClass y.cls = some m.cls → meth.name = y.name → meth.sig.returnType = ret → meth.locks = false → Z.Warmed39 s.vm → T.heap = h0 →
      Stand p l e rm s m as' below meth c T [] 0 0 → Run (bb := true) p e below s Q rm.cells rm.slots (T.setTop (mkF m 0 Ls []))) : Ctr l Z y bytes ml ret rm as' h0 Q := by
  intro ws
  refine MetFree.of_bodySF hpl hisR ?_
  intro p e s m args below meth c s₁ Bd hml0 hP hK
  obtain ⟨rfl, hZ, hh⟩ := hP
  have q := body p e s m below meth c s₁ Bd.exec Bd.bytes hml0 (findClass_of_methodNamed Bd.named) (name_of_methodNamed Bd.named Bd.method).1 Bd.returns Bd.notSynchronized hZ (by rw [← hh, Bd.state]; rfl) (Stand.of_body Bd)
  rw [hef]
  exact q
theorem Run.end_ (X : Stand p l e R s m args below meth c T locs cells slots) (hlk : meth.locks = false) (eT : T.heap = h) {v : Option Value} (hv : meth.sig.returnType = none → v = none) (hc : cells ≤ k) (hn : slots ≤ n) (hQ : Q v h locs) {A : State}
    (f : ∀ fs, (∀ (f : JFrame) (acts : List Action), f.method = m → f.locked = none → f.entered = [] → (doReturn e (T.setTop f) acts v).1 = T.setFrames fs) → Steps p.tables e below A (T.setFrames fs)) : Run (bb := bb) p e below s Q k n A := by
  obtain ⟨fs, hr, hrun, hended, hW, hsame⟩ := X.leave (v := v) hv
  refine ⟨_, _, f fs hr, hrun, hended, _, _, rfl, by rw [show (T.setFrames fs).heap = h from eT]; exact hQ, ?_⟩
  cases bb
  · exact ReturnedEndW.of_narrow ⟨_, rfl⟩ hW (hsame.mono hc hn)
  · exact ⟨⟨_, rfl⟩, hW, hsame.mono hc hn⟩
theorem Run.retN (X : Stand p l e R s m args below meth c T locs cells slots) (hx : p.tables.exec = Jvm.exec) (hlk : meth.locks = false) (eT : T.heap = h) {t : FieldType} (hret : meth.sig.returnType = some t) (ht : t = .boolean ∨ t = .byte ∨ t = .char ∨ t = .short) {pc : Nat} {Ls : Array Slot} {z : Int32} {rest : List Value}
    {z' : Int32} (hz : nar t z = z') (hd : decode c.code pc = .ok (.ireturn, 1)) (hc : cells ≤ k) (hn : slots ≤ n) (hQ : Q (some (.int z')) h locs) : Run (bb := bb) p e below s Q k n (T.setTop (mkF m pc Ls (.int z :: rest))) :=
  Run.end_ X hlk eT (v := some (.int (nar t z))) (fun q => by rw [hret] at q; cases q) hc hn (hz ▸ hQ) fun fs hr => RoadKit.retN X hx hret ht hd hr
theorem Run.retI (X : Stand p l e R s m args below meth c T locs cells slots) (hx : p.tables.exec = Jvm.exec) (hlk : meth.locks = false) (eT : T.heap = h) (hret : meth.sig.returnType = some .int) {pc : Nat} {Ls : Array Slot} {z : Int32} {rest : List Value}
    (hd : decode c.code pc = .ok (.ireturn, 1)) (hc : cells ≤ k) (hn : slots ≤ n) (hQ : Q (some (.int z)) h locs) : Run (bb := bb) p e below s Q k n (T.setTop (mkF m pc Ls (.int z :: rest))) :=
  Run.end_ X hlk eT (v := some (.int z)) (fun q => by rw [hret] at q; cases q) hc hn hQ fun fs hr => RoadKit.retOut X hx hret rfl (Or.inl ⟨rfl, Or.inl rfl, z, rfl⟩) hd hr
theorem Run.retA (X : Stand p l e R s m args below meth c T locs cells slots) (hx : p.tables.exec = Jvm.exec) (hlk : meth.locks = false) (eT : T.heap = h) {t : FieldType} (hret : meth.sig.returnType = some t) (ht : t.isReference = true) {w : Value} (hw : w.isRef = true) (hnr : narrow t w = w) {pc : Nat} {Ls : Array Slot} {rest : List Value}
    (hd : decode c.code pc = .ok (.areturn, 1)) (hc : cells ≤ k) (hn : slots ≤ n) (hQ : Q (some w) h locs) : Run (bb := bb) p e below s Q k n (T.setTop (mkF m pc Ls (w :: rest))) :=
  Run.end_ X hlk eT (v := some w) (fun q => by rw [hret] at q; cases q) hc hn hQ fun fs hr => RoadKit.retOut X hx hret hnr (Or.inr (Or.inr (Or.inr (Or.inr ⟨rfl, ht, hw⟩)))) hd hr
theorem Run.retV (X : Stand p l e R s m args below meth c T locs cells slots) (hx : p.tables.exec = Jvm.exec) (hlk : meth.locks = false) (eT : T.heap = h) (hret : meth.sig.returnType = none) {pc : Nat} {Ls : Array Slot}
    (hd : decode c.code pc = .ok (.return_, 1)) (hc : cells ≤ k) (hn : slots ≤ n) (hQ : Q none h locs) : Run (bb := bb) p e below s Q k n (T.setTop (mkF m pc Ls [])) :=
  Run.end_ X hlk eT (v := none) (fun _ => rfl) hc hn hQ fun fs hr => X.returnOut hx hret hd hr
/-- a call's premises that are alike for every kind of call -/
theorem Ctr.back {y : MethodName} {bytes : ByteArray} {ml : Nat} {ret : Option FieldType} {rm : Room} {as' : Array Value} {len W : Nat} (K : Ctr l Z y bytes ml ret rm as' h Q') (hZ : Z.Warmed39 s.vm) (wc : (Jvm.Cond.code y bytes ml ret).before a0 Z = true) (wz : (Jvm.Cond.initialized y.cls).before a0 Z = true) (hf : rm.frames + 1 ≤ R.frames) (hl : W + (ml + 11) + rm.locals ≤ R.locals) :
    Back l R p e below s args y len W (fun A a => a = as' ∧ A.U.heap = h ∧ A.cells + rm.cells ≤ R.cells ∧ A.slots + rm.slots ≤ R.slots) (fun A _ v B => ∃ L, Q' v B.U.heap L ∧ B.locs = A.locs ++ L ∧ B.cells = A.cells + rm.cells ∧ B.slots = A.slots + rm.slots) := backOf (K []) hZ wc wz hf hl
theorem Run.callS (X : Stand p l e R s m args below meth c T locs cells slots) (hx : p.tables.exec = Jvm.exec) (hZ : Z.Warmed39 s.vm) (eT : T.heap = h) {own : String} {index : Nat} {y : MethodName} {bytes : ByteArray} {ml : Nat} {ret : Option FieldType} {rm : Room}
    (hown : s.vm.findClass own = some m.cls) (w1 : (Jvm.Cond.methodLink own index y).before a0 Z = true) (w2 : (Jvm.Cond.static y).before a0 Z = true) (w3 : (Jvm.Cond.initialized y.cls).before a0 Z = true) (w4 : (Jvm.Cond.code y bytes ml ret).before a0 Z = true)
    (hy : y.cls ≠ "java/lang/invoke/MethodHandle" ∧ y.cls ≠ "java/lang/invoke/VarHandle") {argsL rest : List Value} (K : Ctr l Z y bytes ml ret rm argsL.toArray h Q') {ps : List FieldType} {r : Option FieldType} (hpd : parseMethodDescriptor y.desc = some ⟨ps, r⟩) (hlen : argsL.length = ps.length)
    {pc : Nat} {Ls : Array Slot} (hsz : Ls.size = c.maxLocals) {W : Nat} (hW : (rest.map fun v => v.category).sum = W) (hf : rm.frames + 1 ≤ R.frames) (hl : W + (ml + 11) + rm.locals ≤ R.locals) (hc : cells + rm.cells ≤ R.cells) (hs : slots + rm.slots ≤ R.slots)
    (hd : decode c.code pc = .ok (.invokestatic index, 3)) {st : List Value} (hst : st = argsL.reverse ++ rest)
    (kk : ∀ (T' : State) (v : Option Value) (L : List Loc), Stand p l e R s m args below meth c T' (locs ++ L) (cells + rm.cells) (slots + rm.slots) → Q' v T'.heap L → Run (bb := bb) p e below s Q k n (T'.setTop (mkF m (pc + 3) Ls (v.toList ++ rest)))) :
    Run (bb := bb) p e below s Q k n (T.setTop (mkF m pc Ls st)) := by
  obtain ⟨v, _, ⟨T', L', k', n'⟩, -, X', ⟨L, hQ, l1, y1, z1⟩, st1⟩ := Jvm.LawKit.callS X hx (y := y) hown (mvT hZ w1) (mvT hZ w2) (mvT hZ w3) (mvT hZ w4) hy (K.back hZ w4 w3 hf hl) (g := mkF m pc Ls st) rfl hsz (argsL := argsL) (rest := rest) (lenOf hpd hlen) hst (by show 2 * 0 + _ ≤ _; rw [hW]; omega) hd (fun _ _ => ⟨rfl, eT, hc, hs⟩)
  dsimp only [Pt.U, Pt.locs, Pt.cells, Pt.slots] at X' l1 y1 z1 st1 hQ
  subst l1 y1 z1
  exact Run.st st1 (kk T' v L X' hQ)
theorem Run.callC (X : Stand p l e R s m args below meth c T locs cells slots) (hx : p.tables.exec = Jvm.exec) (hZ : Z.Warmed39 s.vm) (eT : T.heap = h) {own : String} {index : Nat} {y : MethodName} {bytes : ByteArray} {ml : Nat} {rm : Room}
    (hown : s.vm.findClass own = some m.cls) (hy1 : y.name = "<init>") (w1 : (Jvm.Cond.methodLink own index y).before a0 Z = true) (w2 : (Jvm.Cond.instanceMethod y).before a0 Z = true) (w3 : (Jvm.Cond.initialized y.cls).before a0 Z = true) (w4 : (Jvm.Cond.code y bytes ml none).before a0 Z = true)
    (hy : y.cls ≠ "java/lang/invoke/MethodHandle" ∧ y.cls ≠ "java/lang/invoke/VarHandle") {a : Addr} {argsL rest : List Value} (K : Ctr l Z y bytes ml none rm (.ref a :: argsL).toArray h Q') {ps : List FieldType} {r : Option FieldType} (hpd : parseMethodDescriptor y.desc = some ⟨ps, r⟩) (hlen : argsL.length = ps.length)
    {pc : Nat} {Ls : Array Slot} (hsz : Ls.size = c.maxLocals) {W : Nat} (hW : (rest.map fun v => v.category).sum = W) (hf : rm.frames + 1 ≤ R.frames) (hl : W + (ml + 11) + rm.locals ≤ R.locals) (hc : cells + rm.cells ≤ R.cells) (hs : slots + rm.slots ≤ R.slots)
    (hd : decode c.code pc = .ok (.invokespecial index, 3)) {st : List Value} (hst : st = argsL.reverse ++ .ref a :: rest)
    (kk : ∀ (T' : State) (v : Option Value) (L : List Loc), Stand p l e R s m args below meth c T' (locs ++ L) (cells + rm.cells) (slots + rm.slots) → Q' v T'.heap L → Run (bb := bb) p e below s Q k n (T'.setTop (mkF m (pc + 3) Ls (v.toList ++ rest)))) :
    Run (bb := bb) p e below s Q k n (T.setTop (mkF m pc Ls st)) := by
  obtain ⟨v, _, ⟨T', L', k', n'⟩, -, X', ⟨L, hQ, l1, y1, z1⟩, st1⟩ := X.specialBack hx (y := y) hy1 hown (mvT hZ w1) (mvT hZ w2) (mvT hZ w4) hy (K.back hZ w4 w3 hf hl) (g := mkF m pc Ls st) rfl hsz (Steps.refl _) (a := a) (argsL := argsL) (rest := rest) (lenOf hpd hlen) hst (by show 2 * 0 + _ ≤ _; rw [hW]; omega) hd (fun _ _ => ⟨rfl, eT, hc, hs⟩)
  dsimp only [Pt.U, Pt.locs, Pt.cells, Pt.slots] at X' l1 y1 z1 st1 hQ
  subst l1 y1 z1
  exact Run.st (fun t q => st1.trans q) (kk T' v L X' hQ)
/-- 'invokevirtual', the body that the receiver's class selects -/
theorem Run.callV (X : Stand p l e R s m args below meth c T locs cells slots) (hx : p.tables.exec = Jvm.exec) (hZ : Z.Warmed39 s.vm) (eT : T.heap = h) {own C : String} {index : Nat} {y z : MethodName} {bytes : ByteArray} {ml : Nat} {ret : Option FieldType} {rm : Room}
    (hown : s.vm.findClass own = some m.cls) (w1 : (Jvm.Cond.methodLink own index y).before a0 Z = true) (w2 : (Jvm.Cond.declares y).before a0 Z = true) (hnf : NotFace s y) (w5 : (Jvm.Cond.selects C y z).before a0 Z = true) (w6 : (Jvm.Cond.instanceMethod z).before a0 Z = true) (w3 : (Jvm.Cond.initialized z.cls).before a0 Z = true) (w4 : (Jvm.Cond.code z bytes ml ret).before a0 Z = true)
    (hy : y.cls ≠ "java/lang/invoke/MethodHandle" ∧ y.cls ≠ "java/lang/invoke/VarHandle") {a : Addr} (E : Exa Z h a C) {argsL rest : List Value} (K : Ctr l Z z bytes ml ret rm (.ref a :: argsL).toArray h Q') {ps : List FieldType} {r : Option FieldType} (hpd : parseMethodDescriptor y.desc = some ⟨ps, r⟩) (hlen : argsL.length = ps.length)
    {pc : Nat} {Ls : Array Slot} (hsz : Ls.size = c.maxLocals) {W : Nat} (hW : (rest.map fun v => v.category).sum = W) (hf : rm.frames + 1 ≤ R.frames) (hl : W + (ml + 11) + rm.locals ≤ R.locals) (hc : cells + rm.cells ≤ R.cells) (hs : slots + rm.slots ≤ R.slots)
    (hd : decode c.code pc = .ok (.invokevirtual index, 3)) {st : List Value} (hst : st = argsL.reverse ++ .ref a :: rest)
    (kk : ∀ (T' : State) (v : Option Value) (L : List Loc), Stand p l e R s m args below meth c T' (locs ++ L) (cells + rm.cells) (slots + rm.slots) → Q' v T'.heap L → Run (bb := bb) p e below s Q k n (T'.setTop (mkF m (pc + 3) Ls (v.toList ++ rest)))) :
    Run (bb := bb) p e below s Q k n (T.setTop (mkF m pc Ls st)) := by
  obtain ⟨cq, kq, qa, qb, qc⟩ := isOf hZ eT E
  obtain ⟨v, _, ⟨T', L', k', n'⟩, -, X', ⟨L, hQ, l1, y1, z1⟩, st1⟩ := X.virtualBack hx (y := y) (z := z) hown (mvT hZ w1) (mvT hZ w2) hnf (mvT hZ w5) (mvT hZ w6) hy (K.back hZ w4 w3 hf hl) qa qc (g := mkF m pc Ls st) rfl hsz (Steps.refl _) (argsL := argsL) (rest := rest) (lenOf hpd hlen) hst (by show 2 * 0 + _ ≤ _; rw [hW]; omega) hd (fun _ _ => ⟨rfl, eT, hc, hs⟩)
  dsimp only [Pt.U, Pt.locs, Pt.cells, Pt.slots] at X' l1 y1 z1 st1 hQ
  subst l1 y1 z1
  exact Run.st (fun t q => st1.trans q) (kk T' v L X' hQ)
theorem Run.init (X : Stand p l e R s m args below meth c T locs cells slots) (hx : p.tables.exec = Jvm.exec) (hZ : Z.Warmed39 s.vm) (eT : T.heap = h) {own : String} {idx : Nat} (hown : s.vm.findClass own = some m.cls) (w1 : (Jvm.Cond.methodLink own idx Lib.objectInit).before a0 Z = true) (w2 : (Jvm.Cond.instanceMethod Lib.objectInit).before a0 Z = true)
    (w3 : (Jvm.Cond.code Lib.objectInit ⟨#[0xb1]⟩ 1 none).before a0 Z = true) {pc : Nat} {Ls : Array Slot} (hsz : Ls.size = c.maxLocals) {a : Addr} {rest : List Value} (hd : decode c.code pc = .ok (.invokespecial idx, 3)) (hf : 1 ≤ R.frames) {W : Nat} (hW : (rest.map fun v => v.category).sum = W) (hl : W + 12 ≤ R.locals)
    (kk : ∀ (T' : State), Stand p l e R s m args below meth c T' locs cells slots → T'.heap = h → Run (bb := bb) p e below s Q k n (T'.setTop (mkF m (pc + 3) Ls rest))) :
    Run (bb := bb) p e below s Q k n (T.setTop (mkF m pc Ls (.ref a :: rest))) := by
  obtain ⟨T', X', e', st'⟩ := initO X hx hZ hown w1 w2 w3 eT (g := mkF m pc Ls (.ref a :: rest)) rfl hsz rfl hd hf (W := W) (by show 2 * 0 + _ ≤ _; rw [hW]; omega) hl
  exact Run.st st' (kk T' X' e')
theorem Run.x_iloadN (X : Stand p l e R s m args below meth c T locs cells slots) (hx : p.tables.exec = Jvm.exec) {pc q : Nat} {Ls : Array Slot} {S : List Value} {j : Fin 4} {v : Int32} (hd : decode c.code pc = .ok (.iload_n j, 1)) (hl : Ls[j.val]? = some (.val (.int v))) (hq : pc + 1 = q) (r : Run (bb := bb) p e below s Q k n (T.setTop (mkF m q Ls (.int v :: S)))) : Run (bb := bb) p e below s Q k n (T.setTop (mkF m pc Ls (S))) := by
  subst hq; exact Run.st (fun t kt => XS.iloadN X.here hx rfl hd hl kt) r
theorem Run.x_iload (X : Stand p l e R s m args below meth c T locs cells slots) (hx : p.tables.exec = Jvm.exec) {pc q : Nat} {Ls : Array Slot} {S : List Value} {j : Nat} {v : Int32} (hd : decode c.code pc = .ok (.iload j, 2)) (hl : Ls[j]? = some (.val (.int v))) (hq : pc + 2 = q) (r : Run (bb := bb) p e below s Q k n (T.setTop (mkF m q Ls (.int v :: S)))) : Run (bb := bb) p e below s Q k n (T.setTop (mkF m pc Ls (S))) := by
  subst hq; exact Run.st (fun t kt => XS.iload X.here hx rfl hd hl kt) r
theorem Run.x_aloadN (X : Stand p l e R s m args below meth c T locs cells slots) (hx : p.tables.exec = Jvm.exec) {pc q : Nat} {Ls : Array Slot} {S : List Value} {j : Fin 4} {v : Value} (hd : decode c.code pc = .ok (.aload_n j, 1)) (hl : Ls[j.val]? = some (.val v)) (hv : v.isRef = true) (hq : pc + 1 = q) (r : Run (bb := bb) p e below s Q k n (T.setTop (mkF m q Ls (v :: S)))) : Run (bb := bb) p e below s Q k n (T.setTop (mkF m pc Ls (S))) := by
  subst hq; exact Run.st (fun t kt => XS.aloadN X.here hx rfl hd hl hv kt) r
theorem Run.x_aload (X : Stand p l e R s m args below meth c T locs cells slots) (hx : p.tables.exec = Jvm.exec) {pc q : Nat} {Ls : Array Slot} {S : List Value} {j : Nat} {v : Value} (hd : decode c.code pc = .ok (.aload j, 2)) (hl : Ls[j]? = some (.val v)) (hv : v.isRef = true) (hq : pc + 2 = q) (r : Run (bb := bb) p e below s Q k n (T.setTop (mkF m q Ls (v :: S)))) : Run (bb := bb) p e below s Q k n (T.setTop (mkF m pc Ls (S))) := by
  subst hq; exact Run.st (fun t kt => XS.aload X.here hx rfl hd hl hv kt) r
theorem Run.x_istoreN (X : Stand p l e R s m args below meth c T locs cells slots) (hx : p.tables.exec = Jvm.exec) {pc q : Nat} {Ls : Array Slot} {S : List Value} {j : Fin 4} {v : Int32} (L' : Array Slot) (hd : decode c.code pc = .ok (.istore_n j, 1)) (hl : storeLocals Ls j.val (.int v) = some L') (hq : pc + 1 = q) (r : Run (bb := bb) p e below s Q k n (T.setTop (mkF m q L' (S)))) : Run (bb := bb) p e below s Q k n (T.setTop (mkF m pc Ls (.int v :: S))) := by
  subst hq; exact Run.st (fun t kt => XS.istoreN X.here hx rfl hd rfl hl kt) r
theorem Run.x_istore (X : Stand p l e R s m args below meth c T locs cells slots) (hx : p.tables.exec = Jvm.exec) {pc q : Nat} {Ls : Array Slot} {S : List Value} {j : Nat} {v : Int32} (L' : Array Slot) (hd : decode c.code pc = .ok (.istore j, 2)) (hl : storeLocals Ls j (.int v) = some L') (hq : pc + 2 = q) (r : Run (bb := bb) p e below s Q k n (T.setTop (mkF m q L' (S)))) : Run (bb := bb) p e below s Q k n (T.setTop (mkF m pc Ls (.int v :: S))) := by
  subst hq; exact Run.st (fun t kt => XS.istore X.here hx rfl hd rfl hl kt) r
theorem Run.x_astoreN (X : Stand p l e R s m args below meth c T locs cells slots) (hx : p.tables.exec = Jvm.exec) {pc q : Nat} {Ls : Array Slot} {S : List Value} {j : Fin 4} {v : Value} (L' : Array Slot) (hd : decode c.code pc = .ok (.astore_n j, 1)) (hv : v.isRef = true) (hl : storeLocals Ls j.val v = some L') (hq : pc + 1 = q) (r : Run (bb := bb) p e below s Q k n (T.setTop (mkF m q L' (S)))) : Run (bb := bb) p e below s Q k n (T.setTop (mkF m pc Ls (v :: S))) := by
  subst hq; exact Run.st (fun t kt => XS.astoreN X.here hx rfl hd rfl hv hl kt) r
theorem Run.x_astore (X : Stand p l e R s m args below meth c T locs cells slots) (hx : p.tables.exec = Jvm.exec) {pc q : Nat} {Ls : Array Slot} {S : List Value} {j : Nat} {v : Value} (L' : Array Slot) (hd : decode c.code pc = .ok (.astore j, 2)) (hv : v.isRef = true) (hl : storeLocals Ls j v = some L') (hq : pc + 2 = q) (r : Run (bb := bb) p e below s Q k n (T.setTop (mkF m q L' (S)))) : Run (bb := bb) p e below s Q k n (T.setTop (mkF m pc Ls (v :: S))) := by
  subst hq; exact Run.st (fun t kt => XS.astore X.here hx rfl hd rfl hv hl kt) r
theorem Run.x_iconst (X : Stand p l e R s m args below meth c T locs cells slots) (hx : p.tables.exec = Jvm.exec) {pc q : Nat} {Ls : Array Slot} {S : List Value} {i : Int} {z : Int32} (hd : decode c.code pc = .ok (.iconst i, 1)) (hz : Int32.ofInt i = z) (hq : pc + 1 = q) (r : Run (bb := bb) p e below s Q k n (T.setTop (mkF m q Ls (.int z :: S)))) : Run (bb := bb) p e below s Q k n (T.setTop (mkF m pc Ls (S))) := by
  subst hq; subst hz; exact Run.st (fun t kt => XS.iconst X.here hx rfl hd kt) r
theorem Run.x_bipush (X : Stand p l e R s m args below meth c T locs cells slots) (hx : p.tables.exec = Jvm.exec) {pc q : Nat} {Ls : Array Slot} {S : List Value} {i : Int} {z : Int32} (hd : decode c.code pc = .ok (.bipush i, 2)) (hz : (Int8.ofInt i).toInt32 = z) (hq : pc + 2 = q) (r : Run (bb := bb) p e below s Q k n (T.setTop (mkF m q Ls (.int z :: S)))) : Run (bb := bb) p e below s Q k n (T.setTop (mkF m pc Ls (S))) := by
  subst hq; subst hz; exact Run.st (fun t kt => XS.bipush X.here hx rfl hd kt) r
theorem Run.x_sipush (X : Stand p l e R s m args below meth c T locs cells slots) (hx : p.tables.exec = Jvm.exec) {pc q : Nat} {Ls : Array Slot} {S : List Value} {i : Int} {z : Int32} (hd : decode c.code pc = .ok (.sipush i, 3)) (hz : (Int16.ofInt i).toInt32 = z) (hq : pc + 3 = q) (r : Run (bb := bb) p e below s Q k n (T.setTop (mkF m q Ls (.int z :: S)))) : Run (bb := bb) p e below s Q k n (T.setTop (mkF m pc Ls (S))) := by
  subst hq; subst hz; exact Run.st (fun t kt => XS.sipush X.here hx rfl hd kt) r
theorem Run.x_null (X : Stand p l e R s m args below meth c T locs cells slots) (hx : p.tables.exec = Jvm.exec) {pc q : Nat} {Ls : Array Slot} {S : List Value}  (hd : decode c.code pc = .ok (.aconst_null, 1)) (hq : pc + 1 = q) (r : Run (bb := bb) p e below s Q k n (T.setTop (mkF m q Ls (.null :: S)))) : Run (bb := bb) p e below s Q k n (T.setTop (mkF m pc Ls (S))) := by
  subst hq; exact Run.st (fun t kt => XS.aconstNull X.here hx rfl hd kt) r
theorem Run.x_iadd (X : Stand p l e R s m args below meth c T locs cells slots) (hx : p.tables.exec = Jvm.exec) {pc q : Nat} {Ls : Array Slot} {S : List Value} {x y z : Int32} (hd : decode c.code pc = .ok (.iadd, 1)) (hz : x + y = z) (hq : pc + 1 = q) (r : Run (bb := bb) p e below s Q k n (T.setTop (mkF m q Ls (.int z :: S)))) : Run (bb := bb) p e below s Q k n (T.setTop (mkF m pc Ls (.int y :: .int x :: S))) := by
  subst hq; subst hz; exact Run.st (fun t kt => XS.iadd X.here hx rfl hd rfl kt) r
theorem Run.x_isub (X : Stand p l e R s m args below meth c T locs cells slots) (hx : p.tables.exec = Jvm.exec) {pc q : Nat} {Ls : Array Slot} {S : List Value} {x y z : Int32} (hd : decode c.code pc = .ok (.isub, 1)) (hz : x - y = z) (hq : pc + 1 = q) (r : Run (bb := bb) p e below s Q k n (T.setTop (mkF m q Ls (.int z :: S)))) : Run (bb := bb) p e below s Q k n (T.setTop (mkF m pc Ls (.int y :: .int x :: S))) := by
  subst hq; subst hz; exact Run.st (fun t kt => XS.isub X.here hx rfl hd rfl kt) r
theorem Run.x_iand (X : Stand p l e R s m args below meth c T locs cells slots) (hx : p.tables.exec = Jvm.exec) {pc q : Nat} {Ls : Array Slot} {S : List Value} {x y z : Int32} (hd : decode c.code pc = .ok (.iand, 1)) (hz : x &&& y = z) (hq : pc + 1 = q) (r : Run (bb := bb) p e below s Q k n (T.setTop (mkF m q Ls (.int z :: S)))) : Run (bb := bb) p e below s Q k n (T.setTop (mkF m pc Ls (.int y :: .int x :: S))) := by
  subst hq; subst hz; exact Run.st (fun t kt => XS.iand X.here hx rfl hd rfl kt) r
theorem Run.x_ior (X : Stand p l e R s m args below meth c T locs cells slots) (hx : p.tables.exec = Jvm.exec) {pc q : Nat} {Ls : Array Slot} {S : List Value} {x y z : Int32} (hd : decode c.code pc = .ok (.ior, 1)) (hz : x ||| y = z) (hq : pc + 1 = q) (r : Run (bb := bb) p e below s Q k n (T.setTop (mkF m q Ls (.int z :: S)))) : Run (bb := bb) p e below s Q k n (T.setTop (mkF m pc Ls (.int y :: .int x :: S))) := by
  subst hq; subst hz; exact Run.st (fun t kt => XS.ior X.here hx rfl hd rfl kt) r
theorem Run.x_ishl (X : Stand p l e R s m args below meth c T locs cells slots) (hx : p.tables.exec = Jvm.exec) {pc q : Nat} {Ls : Array Slot} {S : List Value} {x y z : Int32} (hd : decode c.code pc = .ok (.ishl, 1)) (hz : x <<< (y &&& 31) = z) (hq : pc + 1 = q) (r : Run (bb := bb) p e below s Q k n (T.setTop (mkF m q Ls (.int z :: S)))) : Run (bb := bb) p e below s Q k n (T.setTop (mkF m pc Ls (.int y :: .int x :: S))) := by
  subst hq; subst hz; exact Run.st (fun t kt => XS.ishl X.here hx rfl hd rfl kt) r
theorem Run.x_ishr (X : Stand p l e R s m args below meth c T locs cells slots) (hx : p.tables.exec = Jvm.exec) {pc q : Nat} {Ls : Array Slot} {S : List Value} {x y z : Int32} (hd : decode c.code pc = .ok (.ishr, 1)) (hz : x >>> (y &&& 31) = z) (hq : pc + 1 = q) (r : Run (bb := bb) p e below s Q k n (T.setTop (mkF m q Ls (.int z :: S)))) : Run (bb := bb) p e below s Q k n (T.setTop (mkF m pc Ls (.int y :: .int x :: S))) := by
  subst hq; subst hz; exact Run.st (fun t kt => XS.ishr X.here hx rfl hd rfl kt) r
theorem Run.x_iushr (X : Stand p l e R s m args below meth c T locs cells slots) (hx : p.tables.exec = Jvm.exec) {pc q : Nat} {Ls : Array Slot} {S : List Value} {x y z : Int32} (hd : decode c.code pc = .ok (.iushr, 1)) (hz : (x.toUInt32 >>> (y &&& 31).toUInt32).toInt32 = z) (hq : pc + 1 = q) (r : Run (bb := bb) p e below s Q k n (T.setTop (mkF m q Ls (.int z :: S)))) : Run (bb := bb) p e below s Q k n (T.setTop (mkF m pc Ls (.int y :: .int x :: S))) := by
  subst hq; subst hz; exact Run.st (fun t kt => XS.iushr X.here hx rfl hd rfl kt) r
theorem Run.x_i2b (X : Stand p l e R s m args below meth c T locs cells slots) (hx : p.tables.exec = Jvm.exec) {pc q : Nat} {Ls : Array Slot} {S : List Value} {x : Int32} {z : Int32} (hd : decode c.code pc = .ok (.i2b, 1)) (hz : x.toInt8.toInt32 = z) (hq : pc + 1 = q) (r : Run (bb := bb) p e below s Q k n (T.setTop (mkF m q Ls (.int z :: S)))) : Run (bb := bb) p e below s Q k n (T.setTop (mkF m pc Ls (.int x :: S))) := by
  subst hq; subst hz; exact Run.st (fun t kt => XS.i2b X.here hx rfl hd rfl kt) r
theorem Run.x_i2c (X : Stand p l e R s m args below meth c T locs cells slots) (hx : p.tables.exec = Jvm.exec) {pc q : Nat} {Ls : Array Slot} {S : List Value} {x : Int32} {z : Int32} (hd : decode c.code pc = .ok (.i2c, 1)) (hz : x.toUInt32.toUInt16.toUInt32.toInt32 = z) (hq : pc + 1 = q) (r : Run (bb := bb) p e below s Q k n (T.setTop (mkF m q Ls (.int z :: S)))) : Run (bb := bb) p e below s Q k n (T.setTop (mkF m pc Ls (.int x :: S))) := by
  subst hq; subst hz; exact Run.st (fun t kt => XS.i2c X.here hx rfl hd rfl kt) r
theorem Run.x_irem (X : Stand p l e R s m args below meth c T locs cells slots) (hx : p.tables.exec = Jvm.exec) {pc q : Nat} {Ls : Array Slot} {S : List Value} {x y z : Int32} (hd : decode c.code pc = .ok (.irem, 1)) (hy : y ≠ 0) (hz : x % y = z) (hq : pc + 1 = q) (r : Run (bb := bb) p e below s Q k n (T.setTop (mkF m q Ls (.int z :: S)))) : Run (bb := bb) p e below s Q k n (T.setTop (mkF m pc Ls (.int y :: .int x :: S))) := by
  subst hq; subst hz; exact Run.st (fun t kt => iremM (g := mkF m pc Ls (.int y :: .int x :: S)) X hx rfl hd rfl hy kt) r
theorem Run.x_iinc (X : Stand p l e R s m args below meth c T locs cells slots) (hx : p.tables.exec = Jvm.exec) {pc q : Nat} {Ls : Array Slot} {S : List Value} {j : Nat} {i : Int} {x z : Int32} (L' : Array Slot) (hd : decode c.code pc = .ok (.iinc j i, 3)) (hl : Ls[j]? = some (.val (.int x))) (hz : x + Int32.ofInt i = z) (hl' : storeLocals Ls j (.int z) = some L') (hq : pc + 3 = q) (r : Run (bb := bb) p e below s Q k n (T.setTop (mkF m q L' (S)))) : Run (bb := bb) p e below s Q k n (T.setTop (mkF m pc Ls (S))) := by
  subst hq; subst hz; exact Run.st (fun t kt => XS.iinc X.here hx rfl hd hl hl' kt) r
theorem Run.x_dup (X : Stand p l e R s m args below meth c T locs cells slots) (hx : p.tables.exec = Jvm.exec) {pc q : Nat} {Ls : Array Slot} {S : List Value} {v : Value} (hd : decode c.code pc = .ok (.dup, 1)) (hc : v.category = 1) (hq : pc + 1 = q) (r : Run (bb := bb) p e below s Q k n (T.setTop (mkF m q Ls (v :: v :: S)))) : Run (bb := bb) p e below s Q k n (T.setTop (mkF m pc Ls (v :: S))) := by
  subst hq; exact Run.st (fun t kt => XS.dup X.here hx rfl hd rfl hc kt) r
theorem Run.x_pop (X : Stand p l e R s m args below meth c T locs cells slots) (hx : p.tables.exec = Jvm.exec) {pc q : Nat} {Ls : Array Slot} {S : List Value} {v : Value} (hd : decode c.code pc = .ok (.pop, 1)) (hc : v.category = 1) (hq : pc + 1 = q) (r : Run (bb := bb) p e below s Q k n (T.setTop (mkF m q Ls (S)))) : Run (bb := bb) p e below s Q k n (T.setTop (mkF m pc Ls (v :: S))) := by
  subst hq; exact Run.st (fun t kt => XS.pop X.here hx rfl hd rfl hc kt) r
theorem Run.x_goto (X : Stand p l e R s m args below meth c T locs cells slots) (hx : p.tables.exec = Jvm.exec) {pc q : Nat} {Ls : Array Slot} {S : List Value}  {o : Int} (hd : decode c.code pc = .ok (.goto o, 3)) (ho : 0 ≤ (pc : Int) + o) (hq : ((pc : Int) + o).toNat = q) (r : Run (bb := bb) p e below s Q k n (T.setTop (mkF m q Ls (S)))) : Run (bb := bb) p e below s Q k n (T.setTop (mkF m pc Ls (S))) :=
  Run.st (fun t kt => XS.goto X.here hx rfl (pc0 := pc) (pc' := q) rfl hd ho hq kt) r
theorem Run.x_ifYes (X : Stand p l e R s m args below meth c T locs cells slots) (hx : p.tables.exec = Jvm.exec) {pc q : Nat} {Ls : Array Slot} {S : List Value} {cd : ClassFile.Cond} {x : Int32} {o : Int} (hd : decode c.code pc = .ok (.ifCond cd o, 3)) (hc : ifCond.holds cd x = true) (ho : 0 ≤ (pc : Int) + o) (hq : ((pc : Int) + o).toNat = q) (r : Run (bb := bb) p e below s Q k n (T.setTop (mkF m q Ls (S)))) : Run (bb := bb) p e below s Q k n (T.setTop (mkF m pc Ls (.int x :: S))) :=
  Run.st (fun t kt => XS.ifYes X.here hx rfl (pc0 := pc) (pc' := q) rfl hd rfl hc ho hq kt) r
theorem Run.x_icmpYes (X : Stand p l e R s m args below meth c T locs cells slots) (hx : p.tables.exec = Jvm.exec) {pc q : Nat} {Ls : Array Slot} {S : List Value} {cd : ClassFile.Cond} {x y : Int32} {o : Int} (hd : decode c.code pc = .ok (.if_icmp cd o, 3)) (hc : if_icmp.holds cd x y = true) (ho : 0 ≤ (pc : Int) + o) (hq : ((pc : Int) + o).toNat = q) (r : Run (bb := bb) p e below s Q k n (T.setTop (mkF m q Ls (S)))) : Run (bb := bb) p e below s Q k n (T.setTop (mkF m pc Ls (.int y :: .int x :: S))) :=
  Run.st (fun t kt => XS.icmpYes X.here hx rfl (pc0 := pc) (pc' := q) rfl hd rfl hc ho hq kt) r
theorem Run.x_ifNo (X : Stand p l e R s m args below meth c T locs cells slots) (hx : p.tables.exec = Jvm.exec) {pc q : Nat} {Ls : Array Slot} {S : List Value} {cd : ClassFile.Cond} {x : Int32} {o : Int} (hd : decode c.code pc = .ok (.ifCond cd o, 3)) (hc : ifCond.holds cd x = false) (hq : pc + 3 = q) (r : Run (bb := bb) p e below s Q k n (T.setTop (mkF m q Ls (S)))) : Run (bb := bb) p e below s Q k n (T.setTop (mkF m pc Ls (.int x :: S))) := by
  subst hq; exact Run.st (fun t kt => XS.ifNo X.here hx rfl hd rfl hc kt) r
theorem Run.x_icmpNo (X : Stand p l e R s m args below meth c T locs cells slots) (hx : p.tables.exec = Jvm.exec) {pc q : Nat} {Ls : Array Slot} {S : List Value} {cd : ClassFile.Cond} {x y : Int32} {o : Int} (hd : decode c.code pc = .ok (.if_icmp cd o, 3)) (hc : if_icmp.holds cd x y = false) (hq : pc + 3 = q) (r : Run (bb := bb) p e below s Q k n (T.setTop (mkF m q Ls (S)))) : Run (bb := bb) p e below s Q k n (T.setTop (mkF m pc Ls (.int y :: .int x :: S))) := by
  subst hq; exact Run.st (fun t kt => XS.icmpNo X.here hx rfl hd rfl hc kt) r
/-- an array and all that it holds -/
def Ars (Z : State) (h : Heap) (a : Addr) (ty : FieldType) (vs : List Value) : Prop := ∃ c : Cell, Arr Z h a c ty ∧ c.slots.toList = vs
variable {a b : Addr} {ty : FieldType} {vs : List Value} {v : Value} {sl : Nat} {ws : List Addr}
theorem Ars.lt (A : Ars Z h a ty vs) : a < h.size := by obtain ⟨c, A, -⟩ := A; exact A.lt
theorem Ars.ext (A : Ars Z h a ty vs) (E : Ext h h') : Ars Z h' a ty vs := by obtain ⟨c, A, r⟩ := A; exact ⟨c, A.ext E, r⟩
theorem Ars.other (A : Ars Z h b ty vs) (W : Wr h h' a sl v) (q : b ≠ a) : Ars Z h' b ty vs := by obtain ⟨c, A, r⟩ := A; exact ⟨c, A.other W q, r⟩
theorem Ars.keep (A : Ars Z h a ty vs) (K : Keep h h' ws) (q : a ∉ ws) : Ars Z h' a ty vs := by obtain ⟨c, A, r⟩ := A; exact ⟨c, ⟨K.2.1 a c A.1 q, A.2⟩, r⟩
theorem Ars.same (A : Ars Z h a ty vs) (W : Wr h h' a sl v) : Ars Z h' a ty (vs.set sl v) := by
  obtain ⟨c, A, r⟩ := A
  exact ⟨_, A.same W, by subst r; simp [Cell.setSlot]⟩
theorem Ars.new {k : ClassId} {z : Int32} (A : Arr Z h a (newA k ty z) ty) : Ars Z h a ty (List.replicate z.toNatClampNeg (defaultValue ty)) := ⟨_, A, by simp [newA]⟩
theorem in_of {c : Cell} {j : Int32} {i : Nat} (e : c.slots.toList = vs) (hj : j.toInt = i) (hi : i < vs.length) : ¬ (j < 0 ∨ c.slots.size ≤ j.toNatClampNeg) ∧ j.toNatClampNeg = i := by
  have e2 : j.toNatClampNeg = i := by show j.toInt.toNat = i; rw [hj]; rfl
  have e3 : c.slots.size = vs.length := by rw [← e]; simp
  refine ⟨?_, e2⟩
  rw [e2, e3, Int32.lt_iff_toInt_lt, hj]
  have : (0 : Int32).toInt = 0 := rfl
  omega
theorem at_of {c : Cell} {j : Int32} {i : Nat} (e : c.slots.toList = vs) (hj : j.toInt = i) (hi : vs[i]? = some v) : ¬ (j < 0 ∨ c.slots.size ≤ j.toNatClampNeg) ∧ c.slots[j.toNatClampNeg]? = some v := by
  obtain ⟨q, e2⟩ := in_of e hj (List.getElem?_eq_some_iff.mp hi).1
  refine ⟨q, ?_⟩
  rw [e2, ← hi, ← e]; simp
theorem Run.newP (X : Stand p l e R s m args below meth c T locs cells slots) (hx : p.tables.exec = Jvm.exec) (hZ : Z.Warmed39 s.vm) (eT : T.heap = h) {aty : ArrayType} (w : (Jvm.Cond.arrayClass (newarray.typeOf aty)).before a0 Z = true) {pc : Nat} {Ls : Array Slot} {z : Int32} {rest : List Value} (hd : decode c.code pc = .ok (.newarray aty, 2))
    {len : Nat} (hz : ¬ z < 0) (hlen : z.toNatClampNeg = len) {cap : Nat} (hcap : len ≤ cap) (hb : cap * 8 ≤ 536870912) (hc : cells + 1 ≤ R.cells) (hl : slots + cap ≤ R.slots)
    (kk : ∀ (T' : State) (h' : Heap) (b : Addr), b = h.size → Stand p l e R s m args below meth c T' locs (cells + 1) (slots + cap) → T'.heap = h' → Ext h h' → Ars Z h' b (newarray.typeOf aty) (List.replicate len (defaultValue (newarray.typeOf aty))) → Run (bb := bb) p e below s Q k n (T'.setTop (mkF m (pc + 2) Ls (.ref b :: rest)))) :
    Run (bb := bb) p e below s Q k n (T.setTop (mkF m pc Ls (.int z :: rest))) := by
  obtain ⟨T', h', k', X', e', E', A', st'⟩ := RoadKit.newP X hx hZ w eT (g := mkF m pc Ls (.int z :: rest)) rfl hd rfl hz (cap := cap) (by rw [hlen]; exact hcap) hb hc hl
  have A2 := Ars.new A'
  rw [hlen] at A2
  exact Run.st st' (kk T' h' _ rfl X' e' E' A2)
theorem Run.ldC (X : Stand p l e R s m args below meth c T locs cells slots) (hx : p.tables.exec = Jvm.exec) (hZ : Z.Warmed39 s.vm) (eT : T.heap = h) (A : Ars Z h a .char vs) {j : Int32} {i : Nat} (hj : j.toInt = i) (hi : vs[i]? = some v) {pc : Nat} {Ls : Array Slot} {rest : List Value} (hd : decode c.code pc = .ok (.caload, 1))
    (r : Run (bb := bb) p e below s Q k n (T.setTop (mkF m (pc + 1) Ls (v :: rest)))) : Run (bb := bb) p e below s Q k n (T.setTop (mkF m pc Ls (.int j :: .ref a :: rest))) := by
  obtain ⟨cl, A, q⟩ := A
  obtain ⟨q1, q2⟩ := at_of q hj hi
  exact Run.st (fun t kt => X.caload hx (j := j) (v := v) (by rw [eT]; exact A.1) (State.isArrayOf_alike hZ.alike A.2.1) A.2.2 q1 q2 (g := mkF m pc Ls (.int j :: .ref a :: rest)) rfl rfl hd _ kt) r
theorem Run.ldB (X : Stand p l e R s m args below meth c T locs cells slots) (hx : p.tables.exec = Jvm.exec) (hZ : Z.Warmed39 s.vm) (eT : T.heap = h) (A : Ars Z h a .byte vs) {j : Int32} {i : Nat} (hj : j.toInt = i) (hi : vs[i]? = some v) {pc : Nat} {Ls : Array Slot} {rest : List Value} (hd : decode c.code pc = .ok (.baload, 1))
    (r : Run (bb := bb) p e below s Q k n (T.setTop (mkF m (pc + 1) Ls (v :: rest)))) : Run (bb := bb) p e below s Q k n (T.setTop (mkF m pc Ls (.int j :: .ref a :: rest))) := by
  obtain ⟨cl, A, q⟩ := A
  obtain ⟨q1, q2⟩ := at_of q hj hi
  exact Run.st (fun t kt => X.baloadBytes hx (j := j) (v := v) (by rw [eT]; exact A.1) (State.isArrayOf_alike hZ.alike A.2.1) A.2.2 q1 q2 (g := mkF m pc Ls (.int j :: .ref a :: rest)) rfl rfl hd _ kt) r
theorem Run.alen (X : Stand p l e R s m args below meth c T locs cells slots) (hx : p.tables.exec = Jvm.exec) (hZ : Z.Warmed39 s.vm) (eT : T.heap = h) (A : Ars Z h a ty vs) {z : Int32} (hz : vs.length.toInt32 = z) {pc : Nat} {Ls : Array Slot} {rest : List Value} (hd : decode c.code pc = .ok (.arraylength, 1))
    (r : Run (bb := bb) p e below s Q k n (T.setTop (mkF m (pc + 1) Ls (.int z :: rest)))) : Run (bb := bb) p e below s Q k n (T.setTop (mkF m pc Ls (.ref a :: rest))) := by
  obtain ⟨cl, A, q⟩ := A
  have e1 : cl.slots.size.toInt32 = z := by rw [← hz, ← q]; simp
  rw [← e1] at r
  exact Run.st (fun t kt => X.arraylength hx (by rw [eT]; exact A.1) (State.isArrayOf_alike hZ.alike A.2.1) (g := mkF m pc Ls (.ref a :: rest)) rfl rfl hd _ kt) r
theorem Run.stC (X : Stand p l e R s m args below meth c T locs cells slots) (hx : p.tables.exec = Jvm.exec) (hZ : Z.Warmed39 s.vm) (eT : T.heap = h) (A : Ars Z h a .char vs) {j z : Int32} {i : Nat} (hj : j.toInt = i) (hi : i < vs.length) {z' : Int32} (hz : nar .char z = z') {pc : Nat} {Ls : Array Slot} {rest : List Value} (hd : decode c.code pc = .ok (.castore, 1))
    (kk : ∀ (T' : State) (h' : Heap), Stand p l e R s m args below meth c T' (locs ++ [⟨a, i⟩]) cells slots → T'.heap = h' → Wr h h' a i (.int z') → Ars Z h' a .char (vs.set i (.int z')) → Run (bb := bb) p e below s Q k n (T'.setTop (mkF m (pc + 1) Ls rest))) : Run (bb := bb) p e below s Q k n (T.setTop (mkF m pc Ls (.int z :: .int j :: .ref a :: rest))) := by
  obtain ⟨cl, A1, q⟩ := id A
  obtain ⟨q1, q2⟩ := in_of q hj hi
  obtain ⟨T', h', X', e', W', st'⟩ := RoadKit.stC X hx hZ eT A1 (j := j) (x := z) q1 (g := mkF m pc Ls (.int z :: .int j :: .ref a :: rest)) rfl rfl hd
  rw [q2] at X' W'
  rw [hz] at W'
  exact Run.st st' (kk T' h' X' e' W' (A.same W'))
theorem Run.stB (X : Stand p l e R s m args below meth c T locs cells slots) (hx : p.tables.exec = Jvm.exec) (hZ : Z.Warmed39 s.vm) (eT : T.heap = h) (A : Ars Z h a .byte vs) {j z : Int32} {i : Nat} (hj : j.toInt = i) (hi : i < vs.length) {z' : Int32} (hz : nar .byte z = z') {pc : Nat} {Ls : Array Slot} {rest : List Value} (hd : decode c.code pc = .ok (.bastore, 1))
    (kk : ∀ (T' : State) (h' : Heap), Stand p l e R s m args below meth c T' (locs ++ [⟨a, i⟩]) cells slots → T'.heap = h' → Wr h h' a i (.int z') → Ars Z h' a .byte (vs.set i (.int z')) → Run (bb := bb) p e below s Q k n (T'.setTop (mkF m (pc + 1) Ls rest))) : Run (bb := bb) p e below s Q k n (T.setTop (mkF m pc Ls (.int z :: .int j :: .ref a :: rest))) := by
  obtain ⟨cl, A1, q⟩ := id A
  obtain ⟨q1, q2⟩ := in_of q hj hi
  obtain ⟨T', h', X', e', W', st'⟩ := RoadKit.stB X hx hZ eT A1 (j := j) (x := z) q1 (g := mkF m pc Ls (.int z :: .int j :: .ref a :: rest)) rfl rfl hd
  rw [q2] at X' W'
  rw [hz] at W'
  exact Run.st st' (kk T' h' X' e' W' (A.same W'))
end Laws
/-- what lies at a is no class's statics -/
def NSt (h : Heap) (a : Addr) : Prop := ∀ c : Cell, h[a]? = some c → c.vm.isStatics = false
theorem Exa_ns {Z : State} {h : Heap} {a : Addr} {C : String} (E : Exa Z h a C) : NSt h a := by
  obtain ⟨c, _, h1, -, -, h4, -⟩ := E
  intro c' q
  cases h1.symm.trans q
  exact h4
theorem Ars.ns {Z : State} {h : Heap} {a : Addr} {ty : FieldType} {vs : List Value} (A : Ars Z h a ty vs) : NSt h a := by
  obtain ⟨c, A, -⟩ := A
  intro c' q
  cases A.1.symm.trans q
  exact A.plain
theorem Sta_keep {Z : State} {h h' : Heap} {C n d : String} {v : Value} {ws : List Addr} (F : Sta Z h C n d v) (K : Keep h h' ws) (q : ∀ x ∈ ws, NSt h x) : Sta Z h' C n d v := by
  obtain ⟨cf, i, k, f, st, cell, h1, h2, h3, h4, h5, h6, h7⟩ := F
  refine ⟨cf, i, k, f, st, cell, h1, h2, h3, h4, K.2.1 _ _ h5 (fun hm => ?_), h6, h7⟩
  have := q st hm cell h5
  rw [h6] at this
  cases this
theorem nar_b01 {z : Int32} (hz : z = 0 ∨ z = 1) : nar .boolean z = z := by rcases hz with rfl | rfl <;> decide
theorem nar_b (x : Int32) : nar .byte x.toInt8.toInt32 = x.toInt8.toInt32 := by
  show x.toInt8.toInt32.toInt8.toInt32 = x.toInt8.toInt32
  simp
theorem nar_c (x : Int32) : nar .char x.toUInt32.toUInt16.toUInt32.toInt32 = x.toUInt32.toUInt16.toUInt32.toInt32 := by
  show x.toUInt32.toUInt16.toUInt32.toInt32.toUInt32.toUInt16.toUInt32.toInt32 = _
  have q : ∀ y : UInt16, y.toUInt32.toInt32.toUInt32.toUInt16 = y := fun y => by simp
  rw [q]
theorem ints_at (xs : List Int32) {i : Nat} (h : i < xs.length) : ∃ x, (xs.map Value.int)[i]? = some (.int x) := ⟨xs[i], by simp [h]⟩
/-- 1 or 0 -/
def own_b (c : Prop) [Decidable c] : Int32 := if c then 1 else 0
theorem own_b1 {c : Prop} [Decidable c] (h : c) : own_b c = 1 := if_pos h
theorem own_b0 {c : Prop} [Decidable c] (h : ¬ c) : own_b c = 0 := if_neg h
theorem own_b01 (c : Prop) [Decidable c] : own_b c = 0 ∨ own_b c = 1 := by unfold own_b; split <;> simp
theorem sub_w (a b : Int32) : (a.toInt64 - b.toInt64).toInt = a.toInt - b.toInt := by
  have h1 := c_lsub a.toInt64 b.toInt64
  have h2 := rng64 (a.toInt64 - b.toInt64)
  have h3 := rng32 a
  have h4 := rng32 b
  rw [c_i2l, c_i2l] at h1
  omega
theorem lt32 (a b : Int32) : a < b ↔ a.toInt < b.toInt := Int32.lt_iff_toInt_lt
theorem lt64 (a b : Int64) : a < b ↔ a.toInt < b.toInt := Int64.lt_iff_toInt_lt
theorem eq32 (a b : Int32) : a = b ↔ a.toInt = b.toInt := Int32.toInt_inj.symm
theorem eq64 (a b : Int64) : a = b ↔ a.toInt = b.toInt := Int64.toInt_inj.symm
/-- an int comes back, nothing is touched -/
def PureI (h0 : Heap) (n0 : Nat) (z : Int32) (v : Option Value) (h : Heap) (L : List Loc) : Prop := v = some (.int z) ∧ Fr n0 L ∧ h = h0
def PureJ (h0 : Heap) (n0 : Nat) (z : Int64) (v : Option Value) (h : Heap) (L : List Loc) : Prop := v = some (.long z) ∧ Fr n0 L ∧ h = h0
def PureR (h0 : Heap) (n0 : Nat) (z : Value) (v : Option Value) (h : Heap) (L : List Loc) : Prop := v = some z ∧ Fr n0 L ∧ h = h0
theorem PureI.mk {h0 : Heap} {n0 : Nat} {z z' : Int32} {L : List Loc} (e : z' = z) (N : Fr n0 L) : PureI h0 n0 z (some (.int z')) h0 L := ⟨by rw [e], N, rfl⟩
theorem PureJ.mk {h0 : Heap} {n0 : Nat} {z z' : Int64} {L : List Loc} (e : z' = z) (N : Fr n0 L) : PureJ h0 n0 z (some (.long z')) h0 L := ⟨by rw [e], N, rfl⟩
/-- the law's own end -/
def Tru (n0 : Nat) (v : Option Value) (h : Heap) (L : List Loc) : Prop := v = some (.int 1) ∧ Fr n0 L
end Jvm.OwnRun
namespace Jvm.OwnRun
open Sem ClassFile Op Lib Jvm.Stand Jvm.Free Jvm.LawKit Jvm.RoadKit
section Laws2
variable {p : Program} {l : Launch} {e : Env} {R : Room} {s : State} {m : MethodId} {args : Array Value} {below : List Frame} {meth : Method} {c : Code} {T : State} {locs : List Loc} {cells slots : Nat} {Z : State} {a0 : Array Value} {h h' : Heap}
variable {Q Q' : Option Value → Heap → List Loc → Prop} {k n : Nat} {bb : Bool}
variable {a b : Addr} {ty : FieldType} {vs : List Value} {v : Value} {sl : Nat} {ws : List Addr}
theorem Run.y_ldC (X : Stand p l e R s m args below meth c T locs cells slots) (hx : p.tables.exec = Jvm.exec) (hZ : Z.Warmed39 s.vm) (eT : T.heap = h) (A : Ars Z h a .char vs) {j : Int32} {i : Nat} (hj : j.toInt = i) (hi : vs[i]? = some v) {pc q : Nat} {Ls : Array Slot} {rest : List Value} (hd : decode c.code pc = .ok (.caload, 1))
    (hq : pc + 1 = q) (r : Run (bb := bb) p e below s Q k n (T.setTop (mkF m q Ls (v :: rest)))) : Run (bb := bb) p e below s Q k n (T.setTop (mkF m pc Ls (.int j :: .ref a :: rest))) := by
  subst hq; exact Run.ldC X hx hZ eT A hj hi hd r
theorem Run.y_ldB (X : Stand p l e R s m args below meth c T locs cells slots) (hx : p.tables.exec = Jvm.exec) (hZ : Z.Warmed39 s.vm) (eT : T.heap = h) (A : Ars Z h a .byte vs) {j : Int32} {i : Nat} (hj : j.toInt = i) (hi : vs[i]? = some v) {pc q : Nat} {Ls : Array Slot} {rest : List Value} (hd : decode c.code pc = .ok (.baload, 1))
    (hq : pc + 1 = q) (r : Run (bb := bb) p e below s Q k n (T.setTop (mkF m q Ls (v :: rest)))) : Run (bb := bb) p e below s Q k n (T.setTop (mkF m pc Ls (.int j :: .ref a :: rest))) := by
  subst hq; exact Run.ldB X hx hZ eT A hj hi hd r
theorem Run.y_alen (X : Stand p l e R s m args below meth c T locs cells slots) (hx : p.tables.exec = Jvm.exec) (hZ : Z.Warmed39 s.vm) (eT : T.heap = h) (A : Ars Z h a ty vs) {z : Int32} (hz : vs.length.toInt32 = z) {pc q : Nat} {Ls : Array Slot} {rest : List Value} (hd : decode c.code pc = .ok (.arraylength, 1))
    (hq : pc + 1 = q) (r : Run (bb := bb) p e below s Q k n (T.setTop (mkF m q Ls (.int z :: rest)))) : Run (bb := bb) p e below s Q k n (T.setTop (mkF m pc Ls (.ref a :: rest))) := by
  subst hq; exact Run.alen X hx hZ eT A hz hd r
theorem Run.y_stC (X : Stand p l e R s m args below meth c T locs cells slots) (hx : p.tables.exec = Jvm.exec) (hZ : Z.Warmed39 s.vm) (eT : T.heap = h) (A : Ars Z h a .char vs) {j z : Int32} {i : Nat} (hj : j.toInt = i) (hi : i < vs.length) {z' : Int32} (hz : nar .char z = z') {pc q : Nat} {Ls : Array Slot} {rest : List Value} (hd : decode c.code pc = .ok (.castore, 1))
    (hq : pc + 1 = q) (kk : ∀ (T' : State) (h' : Heap), Stand p l e R s m args below meth c T' (locs ++ [⟨a, i⟩]) cells slots → T'.heap = h' → Wr h h' a i (.int z') → Ars Z h' a .char (vs.set i (.int z')) → Run (bb := bb) p e below s Q k n (T'.setTop (mkF m q Ls rest))) : Run (bb := bb) p e below s Q k n (T.setTop (mkF m pc Ls (.int z :: .int j :: .ref a :: rest))) := by
  subst hq; exact Run.stC X hx hZ eT A hj hi hz hd kk
theorem Run.y_stB (X : Stand p l e R s m args below meth c T locs cells slots) (hx : p.tables.exec = Jvm.exec) (hZ : Z.Warmed39 s.vm) (eT : T.heap = h) (A : Ars Z h a .byte vs) {j z : Int32} {i : Nat} (hj : j.toInt = i) (hi : i < vs.length) {z' : Int32} (hz : nar .byte z = z') {pc q : Nat} {Ls : Array Slot} {rest : List Value} (hd : decode c.code pc = .ok (.bastore, 1))
    (hq : pc + 1 = q) (kk : ∀ (T' : State) (h' : Heap), Stand p l e R s m args below meth c T' (locs ++ [⟨a, i⟩]) cells slots → T'.heap = h' → Wr h h' a i (.int z') → Ars Z h' a .byte (vs.set i (.int z')) → Run (bb := bb) p e below s Q k n (T'.setTop (mkF m q Ls rest))) : Run (bb := bb) p e below s Q k n (T.setTop (mkF m pc Ls (.int z :: .int j :: .ref a :: rest))) := by
  subst hq; exact Run.stB X hx hZ eT A hj hi hz hd kk
theorem Run.y_getF (X : Stand p l e R s m args below meth c T locs cells slots) (hx : p.tables.exec = Jvm.exec) (hZ : Z.Warmed39 s.vm) (eT : T.heap = h) {own R0 O nf d host : String} {index : Nat} (hown : s.vm.findClass own = some m.cls) (w : (Jvm.Cond.fieldLink own index R0 nf d).before a0 Z = true ∨ (Jvm.Cond.fieldLinkNest own index R0 nf d host).before a0 Z = true) (via : Via Z R0 O nf d)
    (F : Fld Z h a O nf d v) {pc q : Nat} {Ls : Array Slot} {S : List Value} (hd : decode c.code pc = .ok (.getfield index, 3)) (hq : pc + 3 = q)
    (kk : ∀ (T' : State), Stand p l e R s m args below meth c T' locs cells slots → T'.heap = h → Run (bb := bb) p e below s Q k n (T'.setTop (mkF m q Ls (v :: S)))) : Run (bb := bb) p e below s Q k n (T.setTop (mkF m pc Ls (.ref a :: S))) := by
  subst hq
  obtain ⟨T', X', e', st'⟩ := getF X hx hZ hown w via eT F (g := mkF m pc Ls (.ref a :: S)) rfl rfl hd
  exact Run.st st' (kk T' X' e')
/-- the field's link and its class are the plain ones -/
theorem Run.z_getF (X : Stand p l e R s m args below meth c T locs cells slots) (hx : p.tables.exec = Jvm.exec) (hZ : Z.Warmed39 s.vm) (eT : T.heap = h) {own O nf d : String} {index : Nat} (hown : s.vm.findClass own = some m.cls) (w : (Jvm.Cond.fieldLink own index O nf d).before a0 Z = true)
    (F : Fld Z h a O nf d v) {pc q : Nat} {Ls : Array Slot} {S : List Value} (hd : decode c.code pc = .ok (.getfield index, 3)) (hq : pc + 3 = q)
    (kk : ∀ (T' : State), Stand p l e R s m args below meth c T' locs cells slots → T'.heap = h → Run (bb := bb) p e below s Q k n (T'.setTop (mkF m q Ls (v :: S)))) : Run (bb := bb) p e below s Q k n (T.setTop (mkF m pc Ls (.ref a :: S))) :=
  Run.y_getF X hx hZ eT hown (host := "") (Or.inl w) Via.refl F hd hq kk
theorem Run.callSI {n0 : Nat} {z0 : Int32} (X : Stand p l e R s m args below meth c T locs cells slots) (hx : p.tables.exec = Jvm.exec) (hZ : Z.Warmed39 s.vm) (eT : T.heap = h) {own : String} {index : Nat} {y : MethodName} {bytes : ByteArray} {ml : Nat} {ret : Option FieldType} {rm : Room}
    (hown : s.vm.findClass own = some m.cls) (w1 : (Jvm.Cond.methodLink own index y).before a0 Z = true) (w2 : (Jvm.Cond.static y).before a0 Z = true) (w3 : (Jvm.Cond.initialized y.cls).before a0 Z = true) (w4 : (Jvm.Cond.code y bytes ml ret).before a0 Z = true)
    (hy : y.cls ≠ "java/lang/invoke/MethodHandle" ∧ y.cls ≠ "java/lang/invoke/VarHandle") {argsL rest : List Value} (K : Ctr l Z y bytes ml ret rm argsL.toArray h (PureI h n0 z0)) {ps : List FieldType} {r : Option FieldType} (hpd : parseMethodDescriptor y.desc = some ⟨ps, r⟩) (hlen : argsL.length = ps.length)
    {pc q : Nat} {Ls : Array Slot} (hsz : Ls.size = c.maxLocals) {W : Nat} (hW : (rest.map fun v => v.category).sum = W) (hf : rm.frames + 1 ≤ R.frames) (hl : W + (ml + 11) + rm.locals ≤ R.locals) (hc : cells + rm.cells ≤ R.cells) (hs : slots + rm.slots ≤ R.slots)
    (hd : decode c.code pc = .ok (.invokestatic index, 3)) {st : List Value} (hst : st = argsL.reverse ++ rest)
    (hq : pc + 3 = q) (kk : ∀ (T' : State) (L : List Loc), Stand p l e R s m args below meth c T' (locs ++ L) (cells + rm.cells) (slots + rm.slots) → Fr n0 L → T'.heap = h → Run (bb := bb) p e below s Q k n (T'.setTop (mkF m q Ls (.int z0 :: rest)))) :
    Run (bb := bb) p e below s Q k n (T.setTop (mkF m pc Ls st)) := by
  subst hq
  exact Run.callS X hx hZ eT hown w1 w2 w3 w4 hy K hpd hlen hsz hW hf hl hc hs hd hst fun T' v L X' q => by obtain ⟨rfl, M, e⟩ := q; exact kk T' L X' M e
theorem Run.callVI {n0 : Nat} {z0 : Int32} (X : Stand p l e R s m args below meth c T locs cells slots) (hx : p.tables.exec = Jvm.exec) (hZ : Z.Warmed39 s.vm) (eT : T.heap = h) {own C : String} {index : Nat} {y z : MethodName} {bytes : ByteArray} {ml : Nat} {ret : Option FieldType} {rm : Room}
    (hown : s.vm.findClass own = some m.cls) (w1 : (Jvm.Cond.methodLink own index y).before a0 Z = true) (w2 : (Jvm.Cond.declares y).before a0 Z = true) (hnf : NotFace s y) (w5 : (Jvm.Cond.selects C y z).before a0 Z = true) (w6 : (Jvm.Cond.instanceMethod z).before a0 Z = true) (w3 : (Jvm.Cond.initialized z.cls).before a0 Z = true) (w4 : (Jvm.Cond.code z bytes ml ret).before a0 Z = true)
    (hy : y.cls ≠ "java/lang/invoke/MethodHandle" ∧ y.cls ≠ "java/lang/invoke/VarHandle") {a : Addr} (E : Exa Z h a C) {argsL rest : List Value} (K : Ctr l Z z bytes ml ret rm (.ref a :: argsL).toArray h (PureI h n0 z0)) {ps : List FieldType} {r : Option FieldType} (hpd : parseMethodDescriptor y.desc = some ⟨ps, r⟩) (hlen : argsL.length = ps.length)
    {pc q : Nat} {Ls : Array Slot} (hsz : Ls.size = c.maxLocals) {W : Nat} (hW : (rest.map fun v => v.category).sum = W) (hf : rm.frames + 1 ≤ R.frames) (hl : W + (ml + 11) + rm.locals ≤ R.locals) (hc : cells + rm.cells ≤ R.cells) (hs : slots + rm.slots ≤ R.slots)
    (hd : decode c.code pc = .ok (.invokevirtual index, 3)) {st : List Value} (hst : st = argsL.reverse ++ .ref a :: rest)
    (hq : pc + 3 = q) (kk : ∀ (T' : State) (L : List Loc), Stand p l e R s m args below meth c T' (locs ++ L) (cells + rm.cells) (slots + rm.slots) → Fr n0 L → T'.heap = h → Run (bb := bb) p e below s Q k n (T'.setTop (mkF m q Ls (.int z0 :: rest)))) :
    Run (bb := bb) p e below s Q k n (T.setTop (mkF m pc Ls st)) := by
  subst hq
  exact Run.callV X hx hZ eT hown w1 w2 hnf w5 w6 w3 w4 hy E K hpd hlen hsz hW hf hl hc hs hd hst fun T' v L X' q => by obtain ⟨rfl, M, e⟩ := q; exact kk T' L X' M e
end Laws2
end Jvm.OwnRun
namespace Jvm.OwnRun
open Sem ClassFile Op Lib Jvm.Stand Jvm.Free Jvm.LawKit Jvm.RoadKit
/-- the contract of a body that may intern, from a start that has interned nothing -/
def CtrW (l : Launch) (Z : State) (y : MethodName) (bytes : ByteArray) (ml : Nat) (ret : Option FieldType) (rm : Room) (as' : Array Value) (h0 : Heap) (Q : Option Value → Heap → List Loc → Prop) : Prop :=
  ∀ ws : List Jvm.Cond, MetFree l y (head1 (Jvm.Cond.code y bytes ml ret :: ws) rm) (fun a U => a = as' ∧ (Z.Warmed39 U.vm ∧ IB Z U.vm []) ∧ U.heap = h0) (fun _ _ _ _ _ => True) (fun _ U o U' => ∃ v L, o = .returned v ∧ Q v U'.heap L ∧ ReturnedEndW U o U' L rm.cells rm.slots)
theorem IB_move {Z s : State} {vm' : Vm} {Ts : List String} (I : IB Z s.vm Ts) (hW : s.WarmedH vm') : IB Z vm' Ts := by
  obtain ⟨more, e, hm⟩ := I
  exact ⟨more, by rw [hW.interned_eq]; exact e, hm⟩
section LawsW
variable {p : Program} {l : Launch} {e : Env} {R : Room} {s : State} {m : MethodId} {args : Array Value} {below : List Frame} {meth : Method} {c : Code} {T : State} {locs : List Loc} {cells slots : Nat} {Z : State} {a0 : Array Value} {h h' : Heap}
variable {Q Q' : Option Value → Heap → List Loc → Prop} {k n : Nat} {bb : Bool}
theorem CtrW.of {y : MethodName} {bytes : ByteArray} {ml : Nat} {ret : Option FieldType} {rm : Room} {as' : Array Value} {h0 : Heap} {Ls : Array Slot} (hpl : plainFor y = true) (hef : ∀ m, entryFrame m as' ml = mkF m 0 Ls [])
    (body : ∀ (p : Program) (e : Env) (s : State) (m : MethodId) (below : List Frame) (meth : Method) (c : Code) (T : State), p.tables.exec = Jvm.exec → c.code = bytes → c.maxLocals = ml → s.vm.findClass y.cls = some m.cls → meth.name = y.name → meth.sig.returnType = ret → meth.locks = false → Z.Warmed39 s.vm → T.heap = h0 →
      Stand p l e rm s m as' below meth c T [] 0 0 → IB Z s.vm [] → s.heap = h0 → Run (bb := false) p e below s Q rm.cells rm.slots (T.setTop (mkF m 0 Ls []))) : CtrW l Z y bytes ml ret rm as' h0 Q := by
  intro ws
  refine MetFree.of_bodySF hpl hisR ?_
  intro p e s m args below meth c s₁ Bd hml0 hP hK
  obtain ⟨rfl, ⟨hZ, hI⟩, hh⟩ := hP
  have q := body p e s m below meth c s₁ Bd.exec Bd.bytes hml0 (findClass_of_methodNamed Bd.named) (name_of_methodNamed Bd.named Bd.method).1 Bd.returns Bd.notSynchronized hZ (by rw [← hh, Bd.state]; rfl) (Stand.of_body Bd) hI hh
  rw [hef]
  exact q
theorem CtrW.back {y : MethodName} {bytes : ByteArray} {ml : Nat} {ret : Option FieldType} {rm : Room} {as' : Array Value} {len W : Nat} (K : CtrW l Z y bytes ml ret rm as' h Q') (hZ : Z.Warmed39 s.vm) (hI : IB Z s.vm []) (wc : (Jvm.Cond.code y bytes ml ret).before a0 Z = true) (wz : (Jvm.Cond.initialized y.cls).before a0 Z = true) (hf : rm.frames + 1 ≤ R.frames) (hl : W + (ml + 11) + rm.locals ≤ R.locals) :
    BackS l R p e below s args y len W (fun A a => a = as' ∧ A.U.heap = h ∧ A.cells + rm.cells ≤ R.cells ∧ A.slots + rm.slots ≤ R.slots) (fun A _ v B => ∃ L, Q' v B.U.heap L ∧ B.locs = A.locs ++ L ∧ B.cells = A.cells + rm.cells ∧ B.slots = A.slots + rm.slots) :=
  BackS.of_freeW (bytes := bytes) (maxL := ml) (ret := ret) (E := fun _ _ o t L k n => k = rm.cells ∧ n = rm.slots ∧ ∃ v, o = .returned v ∧ Q' v t.heap L) (K []) hf hl
    (fun m meth c A a Y hp => have hU : Z.Warmed39 A.U.vm := wtrans hZ Y.warmed
      ⟨by show (Jvm.Cond.and _ .tt).before a A.U = true; rw [Cond.before_and, mv hU wc]; rfl, mv hU wc, mv hU wz, hp.2.2.1, hp.2.2.2⟩)
    (fun m meth c A a g mk Y hp => ⟨hp.1, ⟨wtrans hZ Y.warmed, IB_move hI Y.warmed⟩, hp.2.1⟩) (fun _ _ _ _ _ _ _ _ _ => trivial)
    (fun _ _ _ _ ⟨v, L, h1, h2, h3⟩ => ⟨L, _, _, h3, rfl, rfl, v, h1, h2⟩)
    (fun m meth c A a g mk v t L k n Y hp _ _ ⟨e1, e2, v', e3, e4⟩ => by cases e3; subst e1 e2; exact ⟨L, e4, rfl, rfl, rfl⟩)
/-- what the run says over the re-based start, said of the true one -/
theorem Run.fold {vm1 : Vm} {k1 : Nat} {A : State} (hS : s.Since vm1 k1) (r : Run (bb := false) p e below (s.setVm vm1) (fun v h L => Q v h L ∧ k1 ≤ h.size) k n A) : Run (bb := false) p e below s Q k n A := by
  obtain ⟨s₂, o, h1, h2, h3, v, L, h4, ⟨h5, h6⟩, h7, h8, h9, h10⟩ := r
  have q := hS.trans (vm₂ := s₂.vm) (n₂ := s₂.heap.size) ⟨h8, h9⟩ h6
  exact ⟨s₂, o, h1, h2, h3, v, L, h4, h5, h7, q.1, q.2, h10.setVm s.vm⟩
theorem Run.callSW (X : Stand p l e R s m args below meth c T locs cells slots) (hx : p.tables.exec = Jvm.exec) (hZ : Z.Warmed39 s.vm) (hI : IB Z s.vm []) (eT : T.heap = h) {own : String} {index : Nat} {y : MethodName} {bytes : ByteArray} {ml : Nat} {ret : Option FieldType} {rm : Room}
    (hown : s.vm.findClass own = some m.cls) (w1 : (Jvm.Cond.methodLink own index y).before a0 Z = true) (w2 : (Jvm.Cond.static y).before a0 Z = true) (w3 : (Jvm.Cond.initialized y.cls).before a0 Z = true) (w4 : (Jvm.Cond.code y bytes ml ret).before a0 Z = true)
    (hy : y.cls ≠ "java/lang/invoke/MethodHandle" ∧ y.cls ≠ "java/lang/invoke/VarHandle") {argsL rest : List Value} (K : CtrW l Z y bytes ml ret rm argsL.toArray h Q') {ps : List FieldType} {r : Option FieldType} (hpd : parseMethodDescriptor y.desc = some ⟨ps, r⟩) (hlen : argsL.length = ps.length)
    {pc : Nat} {Ls : Array Slot} (hsz : Ls.size = c.maxLocals) {W : Nat} (hW : (rest.map fun v => v.category).sum = W) (hf : rm.frames + 1 ≤ R.frames) (hl : W + (ml + 11) + rm.locals ≤ R.locals) (hc : cells + rm.cells ≤ R.cells) (hs : slots + rm.slots ≤ R.slots)
    (hd : decode c.code pc = .ok (.invokestatic index, 3)) {st : List Value} (hst : st = argsL.reverse ++ rest)
    (kk : ∀ (T' : State) (v : Option Value) (L : List Loc), Stand p l e R (s.setVm T'.vm) m args below meth c T' (locs ++ L) (cells + rm.cells) (slots + rm.slots) → Z.Warmed39 (s.setVm T'.vm).vm → (s.setVm T'.vm).vm.findClass own = some m.cls → Q' v T'.heap L → Run (bb := false) p e below (s.setVm T'.vm) (fun v h L => Q v h L ∧ T'.heap.size ≤ h.size) k n (T'.setTop (mkF m (pc + 3) Ls (v.toList ++ rest)))) :
    Run (bb := false) p e below s Q k n (T.setTop (mkF m pc Ls st)) := by
  obtain ⟨v, _, ⟨T', L', k', n'⟩, -, X', hS, -, ⟨L, hQ, l1, y1, z1⟩, st1⟩ := callSS X hx (y := y) hown (mvT hZ w1) (mvT hZ w2) (mvT hZ w3) (mvT hZ w4) hy (K.back hZ hI w4 w3 hf hl) (g := mkF m pc Ls st) rfl hsz (argsL := argsL) (rest := rest) (lenOf hpd hlen) hst (by show 2 * 0 + _ ≤ _; rw [hW]; omega) hd (fun _ _ => ⟨rfl, eT, hc, hs⟩)
  dsimp only [Pt.U, Pt.locs, Pt.cells, Pt.slots] at X' l1 y1 z1 st1 hQ hS
  subst l1 y1 z1
  exact Run.fold hS (Run.st (fun t q => st1.trans q) (kk T' v L X' (State.Warmed39.trans hZ hS.1) (by rw [show (s.setVm T'.vm).vm = T'.vm from rfl, hS.1.alike.findClass]; exact hown) hQ))
theorem Run.callCW (X : Stand p l e R s m args below meth c T locs cells slots) (hx : p.tables.exec = Jvm.exec) (hZ : Z.Warmed39 s.vm) (hI : IB Z s.vm []) (eT : T.heap = h) {own : String} {index : Nat} {y : MethodName} {bytes : ByteArray} {ml : Nat} {rm : Room}
    (hown : s.vm.findClass own = some m.cls) (hy1 : y.name = "<init>") (w1 : (Jvm.Cond.methodLink own index y).before a0 Z = true) (w2 : (Jvm.Cond.instanceMethod y).before a0 Z = true) (w3 : (Jvm.Cond.initialized y.cls).before a0 Z = true) (w4 : (Jvm.Cond.code y bytes ml none).before a0 Z = true)
    (hy : y.cls ≠ "java/lang/invoke/MethodHandle" ∧ y.cls ≠ "java/lang/invoke/VarHandle") {a : Addr} {argsL rest : List Value} (K : CtrW l Z y bytes ml none rm (.ref a :: argsL).toArray h Q') {ps : List FieldType} {r : Option FieldType} (hpd : parseMethodDescriptor y.desc = some ⟨ps, r⟩) (hlen : argsL.length = ps.length)
    {pc : Nat} {Ls : Array Slot} (hsz : Ls.size = c.maxLocals) {W : Nat} (hW : (rest.map fun v => v.category).sum = W) (hf : rm.frames + 1 ≤ R.frames) (hl : W + (ml + 11) + rm.locals ≤ R.locals) (hc : cells + rm.cells ≤ R.cells) (hs : slots + rm.slots ≤ R.slots)
    (hd : decode c.code pc = .ok (.invokespecial index, 3)) {st : List Value} (hst : st = argsL.reverse ++ .ref a :: rest)
    (kk : ∀ (T' : State) (v : Option Value) (L : List Loc), Stand p l e R (s.setVm T'.vm) m args below meth c T' (locs ++ L) (cells + rm.cells) (slots + rm.slots) → Z.Warmed39 (s.setVm T'.vm).vm → (s.setVm T'.vm).vm.findClass own = some m.cls → Q' v T'.heap L → Run (bb := false) p e below (s.setVm T'.vm) (fun v h L => Q v h L ∧ T'.heap.size ≤ h.size) k n (T'.setTop (mkF m (pc + 3) Ls (v.toList ++ rest)))) :
    Run (bb := false) p e below s Q k n (T.setTop (mkF m pc Ls st)) := by
  obtain ⟨v, _, ⟨T', L', k', n'⟩, -, X', hS, -, ⟨L, hQ, l1, y1, z1⟩, st1⟩ := X.specialBackS hx (y := y) hy1 hown (mvT hZ w1) (mvT hZ w2) (mvT hZ w4) hy (K.back hZ hI w4 w3 hf hl) (g := mkF m pc Ls st) rfl hsz (Steps.refl _) (a := a) (argsL := argsL) (rest := rest) (lenOf hpd hlen) hst (by show 2 * 0 + _ ≤ _; rw [hW]; omega) hd (fun _ _ => ⟨rfl, eT, hc, hs⟩)
  dsimp only [Pt.U, Pt.locs, Pt.cells, Pt.slots] at X' l1 y1 z1 st1 hQ hS
  subst l1 y1 z1
  exact Run.fold hS (Run.st (fun t q => st1.trans q) (kk T' v L X' (State.Warmed39.trans hZ hS.1) (by rw [show (s.setVm T'.vm).vm = T'.vm from rfl, hS.1.alike.findClass]; exact hown) hQ))
theorem Ars_arv {a : Addr} {kc : ClassId} {ty : FieldType} {z : Int32} {vs : List Value} {d : Value} (A : Arv Z h a kc ty z vs d) (hl : vs.length = z.toNatClampNeg) : Ars Z h a ty vs := by
  obtain ⟨c, A, -, h2, -, h4, -⟩ := A
  refine ⟨c, A, ?_⟩
  apply List.ext_getElem?
  intro i
  by_cases hi : i < c.slots.size
  · have := h4 i hi
    rw [Array.getElem?_toList, this, List.getD_eq_getElem?_getD, List.getElem?_eq_getElem (by omega : i < vs.length)]
    rfl
  · rw [List.getElem?_eq_none (by rw [Array.length_toList]; omega), List.getElem?_eq_none (by omega)]
/-- 'ldc ""', the walk having written and interned nothing -/
theorem Run.ldcE (X : Stand p l e R s m args below meth c T [] cells slots) (hx : p.tables.exec = Jvm.exec) (hZ : Z.Warmed39 s.vm) (hI : IB Z s.vm []) (eT : T.heap = h) {own : String} {index : Nat} (hown : s.vm.findClass own = some m.cls) (w : (Jvm.Cond.stringLink own index "").before a0 Z = true) (wS : ∀ a ∈ Bundle.stringAtoms, a.before a0 Z = true) (hs : s.heap = h)
    (hkeep : ∀ (b : Addr) (cl : Cell), Z.heap[b]? = some cl → h[b]? = some cl) (hh : Jvm.Lit.constHeld Z own index) (hcw : Jvm.Lit.compactW.before a0 Z = true)
    {pc : Nat} {Ls : Array Slot} {S : List Value} (hd : decode c.code pc = .ok (.ldc index, 2)) (hc : cells + 2 ≤ R.cells) (hl : slots + 4 ≤ R.slots)
    (kk : ∀ (T' : State) (h' : Heap) (a b : Addr), Stand p l e R (s.setVm T'.vm) m args below meth c T' [] (cells + 2) (slots + 4) → T'.heap = h' → Ext h h' → Z.Warmed39 (s.setVm T'.vm).vm → (s.setVm T'.vm).vm.findClass own = some m.cls → Exa Z h' a "java/lang/String" → Fld Z h' a "java/lang/String" "coder" "B" (.int 0) → Fld Z h' a "java/lang/String" "value" "[B" (.ref b) → Ars Z h' b .byte [] → (∀ x C kc, Exa Z h' x C → (Jvm.Cond.instantiable C kc).before a0 Z = true → x ≠ b) → Lit (s.setVm T'.vm) own index a →
      Run (bb := false) p e below (s.setVm T'.vm) (fun v h L => Q v h L ∧ h'.size ≤ h.size) k n (T'.setTop (mkF m (pc + 2) Ls (.ref a :: S)))) :
    Run (bb := false) p e below s Q k n (T.setTop (mkF m pc Ls S)) := by
  obtain ⟨a, T', h', k1, b, kc, X', e', E', hS, hk, hZ', hown', EA, FC, FV, AV, -, -, -, L, st⟩ := ldcSVL (vm0 := s.vm) (Ts := []) X hx hZ hown w wS eT (k0 := s.heap.size) ((State.WarmedH.refl s).since _) (by rw [hs]; exact Nat.le_refl _) (Fr.nil _) (fun b cl q => by rw [hs]; exact hkeep b cl q) hI (by simp) hh hcw (vs := []) (z := 0) ⟨by simp, by simp⟩ (by decide) (by decide) (g := mkF m pc Ls S) rfl hd (n := 0) (by decide) (by decide) hc hl
  have AR := Ars_arv AV (by decide)
  have r := kk T' h' a b X' e' E' hZ' hown' EA FC FV AR (fun x C kc q w => Exa.neArv q AV w) L
  exact Run.fold (k1 := k1) hS (by
    obtain ⟨s₂, o, h1, h2, h3, v, L, h4, ⟨h5, h6⟩, h7⟩ := Run.st st r
    exact ⟨s₂, o, h1, h2, h3, v, L, h4, ⟨h5, Nat.le_trans hk h6⟩, h7⟩)
/-- 'ldc' of the entry a second time -/
theorem Run.ldcA (X : Stand p l e R s m args below meth c T locs cells slots) (hx : p.tables.exec = Jvm.exec) (hZ : Z.Warmed39 s.vm) {own text : String} {index : Nat} (hown : s.vm.findClass own = some m.cls) (w : (Jvm.Cond.stringLink own index text).before a0 Z = true) {a : Addr} (L : Lit s own index a)
    {pc : Nat} {Ls : Array Slot} {S : List Value} (hd : decode c.code pc = .ok (.ldc index, 2)) (r : Run (bb := bb) p e below s Q k n (T.setTop (mkF m (pc + 2) Ls (.ref a :: S)))) : Run (bb := bb) p e below s Q k n (T.setTop (mkF m pc Ls S)) :=
  Run.st (ldcAgain (vm0 := s.vm) X hx hZ hown w L (g := mkF m pc Ls S) rfl hd) r
end LawsW
end Jvm.OwnRun
namespace Jvm.Pilot.@@N@@
open Jvm Jvm.ClassFile Sem Op Lib Jvm.Free Jvm.Stand Jvm.LawKit Jvm.RoadKit Jvm.OwnRun Bundle Jvm.Pilot.@@N@@.Jvm.D
theorem own_u16 (y : UInt16) : y.toUInt32.toInt32.toInt = (y.toNat : Int) := by
 have := y.toNat_lt
 show y.toUInt32.toBitVec.toInt = _
 rw [BitVec.toInt_eq_toNat_of_lt (by show 2 * y.toUInt32.toNat < _; rw [UInt16.toNat_toUInt32]; omega)]
 show ((y.toUInt32.toNat : Nat) : Int) = _
 rw [UInt16.toNat_toUInt32]
theorem own_rg {x k : Int32} (h : x.toUInt32.toUInt16.toUInt32.toInt32 = k) : 0 ≤ k.toInt ∧ k.toInt < 65536 := by
 subst h
 have q := x.toUInt32.toUInt16.toNat_lt
 have e := own_u16 x.toUInt32.toUInt16
 omega
theorem own_nr {c : Int32} (h : 0 ≤ c.toInt ∧ c.toInt < 65536) : nar .char c = c := by
 have : c = (UInt16.ofNat c.toInt.toNat).toUInt32.toInt32 := by
  apply Int32.toInt_inj.mp
  rw [own_u16, UInt16.toNat_ofNat']
  omega
 rw [this]
 show (UInt16.ofNat c.toInt.toNat).toUInt32.toInt32.toUInt32.toUInt16.toUInt32.toInt32 = _
 simp
theorem own_ic {c : Int32} (h : 0 ≤ c.toInt ∧ c.toInt < 65536) : c.toUInt32.toUInt16.toUInt32.toInt32 = c := own_nr h
theorem own_lat {c : Int32} (h : 0 ≤ c.toInt ∧ c.toInt < 65536) (q : ¬ (255 : Int32) < c) : (c.toInt8.toInt32 &&& (255 : Int32)).toUInt32.toUInt16.toUInt32.toInt32 = c := by
 have e : c.toInt8.toInt32 &&& (255 : Int32) = c := by
  have m := c_mask c.toInt8.toInt32 255 8 (by decide) (by decide)
  have r := c_i2b c
  rw [lt32] at q
  have : (255 : Int32).toInt = 255 := rfl
  rw [eq32, m]
  omega
 rw [e]
 exact own_ic h
theorem own_utf {c : Int32} (h : 0 ≤ c.toInt ∧ c.toInt < 65536) : (((c >>> ((0 : Int32) &&& 31)).toInt8.toInt32 &&& (255 : Int32)) <<< ((0 : Int32) &&& 31) ||| ((c >>> ((8 : Int32) &&& 31)).toInt8.toInt32 &&& (255 : Int32)) <<< ((8 : Int32) &&& 31)).toUInt32.toUInt16.toUInt32.toInt32 = c := by
 have a1 := c_ishr c 0 0 (by decide)
 have a2 := c_i2b (c >>> ((0 : Int32) &&& 31))
 have a3 := c_mask ((c >>> ((0 : Int32) &&& 31)).toInt8.toInt32) 255 8 (by decide) (by decide)
 have a4 := c_ishl ((c >>> ((0 : Int32) &&& 31)).toInt8.toInt32 &&& 255) 0 0 (by decide)
 have b1 := c_ishr c 8 8 (by decide)
 have b2 := c_i2b (c >>> ((8 : Int32) &&& 31))
 have b3 := c_mask ((c >>> ((8 : Int32) &&& 31)).toInt8.toInt32) 255 8 (by decide) (by decide)
 have b4 := c_ishl ((c >>> ((8 : Int32) &&& 31)).toInt8.toInt32 &&& 255) 8 8 (by decide)
 generalize ((c >>> ((0 : Int32) &&& 31)).toInt8.toInt32 &&& (255 : Int32)) <<< ((0 : Int32) &&& 31) = lo at *
 generalize ((c >>> ((8 : Int32) &&& 31)).toInt8.toInt32 &&& (255 : Int32)) <<< ((8 : Int32) &&& 31) = hi at *
 have r1 := rng32 lo
 have r2 := rng32 hi
 have o := c_or' lo hi 8 (by decide) 256 (by decide) (by omega) (by omega) (by omega)
 have r3 := rng32 (lo ||| hi)
 have i := c_i2c (lo ||| hi)
 rw [eq32]
 omega
theorem own_3 {b v : Int32} (h : b &&& (3 : Int32) = v) : v = 0 ∨ v = 1 ∨ v = 2 ∨ v = 3 := by
 have q := c_mask b 3 2 (by decide) (by decide)
 rw [h] at q
 simp only [eq32]
 have : (0 : Int32).toInt = 0 ∧ (1 : Int32).toInt = 1 ∧ (2 : Int32).toInt = 2 ∧ (3 : Int32).toInt = 3 := by decide
 omega
theorem own_le3 {b v : Int32} (h : b &&& (3 : Int32) = v) : ¬ (3 : Int32) < v := by
 rcases own_3 h with rfl | rfl | rfl | rfl <;> decide
theorem own_nz {b v : Int32} (h : b &&& (3 : Int32) = v) : v + (1 : Int32) ≠ 0 := by
 rcases own_3 h with rfl | rfl | rfl | rfl <;> decide
theorem own_s0 {p v : Int32} (h : (p &&& (2147483647 : Int32)) % ((0 : Int32) + (1 : Int32)) = v) : v = 0 := by
 rw [show ((0 : Int32) + (1 : Int32)) = 1 by decide] at h
 have q := c_mask p 2147483647 31 (by decide) (by decide)
 have r := (c_irem (p &&& 2147483647) 1 1 (by decide)).1 (by rw [q]; omega)
 rw [h] at r
 simp only [eq32]
 have : (0 : Int32).toInt = 0 ∧ (1 : Int32).toInt = 1 ∧ (2 : Int32).toInt = 2 ∧ (3 : Int32).toInt = 3 := by decide
 omega
theorem own_s1 {p v : Int32} (h : (p &&& (2147483647 : Int32)) % ((1 : Int32) + (1 : Int32)) = v) : v = 0 ∨ v = 1 := by
 rw [show ((1 : Int32) + (1 : Int32)) = 2 by decide] at h
 have q := c_mask p 2147483647 31 (by decide) (by decide)
 have r := (c_irem (p &&& 2147483647) 2 2 (by decide)).1 (by rw [q]; omega)
 rw [h] at r
 simp only [eq32]
 have : (0 : Int32).toInt = 0 ∧ (1 : Int32).toInt = 1 ∧ (2 : Int32).toInt = 2 ∧ (3 : Int32).toInt = 3 := by decide
 omega
theorem own_s2 {p v : Int32} (h : (p &&& (2147483647 : Int32)) % ((2 : Int32) + (1 : Int32)) = v) : v = 0 ∨ v = 1 ∨ v = 2 := by
 rw [show ((2 : Int32) + (1 : Int32)) = 3 by decide] at h
 have q := c_mask p 2147483647 31 (by decide) (by decide)
 have r := (c_irem (p &&& 2147483647) 3 3 (by decide)).1 (by rw [q]; omega)
 rw [h] at r
 simp only [eq32]
 have : (0 : Int32).toInt = 0 ∧ (1 : Int32).toInt = 1 ∧ (2 : Int32).toInt = 2 ∧ (3 : Int32).toInt = 3 := by decide
 omega
theorem own_s3 {p v : Int32} (h : (p &&& (2147483647 : Int32)) % ((3 : Int32) + (1 : Int32)) = v) : v = 0 ∨ v = 1 ∨ v = 2 ∨ v = 3 := by
 rw [show ((3 : Int32) + (1 : Int32)) = 4 by decide] at h
 have q := c_mask p 2147483647 31 (by decide) (by decide)
 have r := (c_irem (p &&& 2147483647) 4 4 (by decide)).1 (by rw [q]; omega)
 rw [h] at r
 simp only [eq32]
 have : (0 : Int32).toInt = 0 ∧ (1 : Int32).toInt = 1 ∧ (2 : Int32).toInt = 2 ∧ (3 : Int32).toInt = 3 := by decide
 omega
theorem d1_0 : decode jdk_41_method_11_code 0 = .ok (.iload_n 0, 1) := by decide +kernel
theorem d1_1 : decode jdk_41_method_11_code 1 = .ok (.ifCond .lt 8, 3) := by decide +kernel
theorem d1_4 : decode jdk_41_method_11_code 4 = .ok (.iload_n 0, 1) := by decide +kernel
theorem d1_5 : decode jdk_41_method_11_code 5 = .ok (.iload_n 1, 1) := by decide +kernel
theorem d1_6 : decode jdk_41_method_11_code 6 = .ok (.if_icmp .lt 10, 3) := by decide +kernel
theorem d1_9 : decode jdk_41_method_11_code 9 = .ok (.aload_n 2, 1) := by decide +kernel
theorem d1_10 : decode jdk_41_method_11_code 10 = .ok (.iload_n 0, 1) := by decide +kernel
theorem d1_11 : decode jdk_41_method_11_code 11 = .ok (.iload_n 1, 1) := by decide +kernel
theorem d1_12 : decode jdk_41_method_11_code 12 = .ok (.invokestatic 95, 3) := by decide +kernel
theorem d1_15 : decode jdk_41_method_11_code 15 = .ok (.athrow, 1) := by decide +kernel
theorem d1_16 : decode jdk_41_method_11_code 16 = .ok (.iload_n 0, 1) := by decide +kernel
theorem d1_17 : decode jdk_41_method_11_code 17 = .ok (.ireturn, 1) := by decide +kernel
theorem pn_0 : plainName "jdk/internal/util/Preconditions" = true := by first | (simp [plainName, overriddenIn]; done) | decide +kernel
theorem ef_c_pc_null (m : MethodId) (x : Int32) (y : Int32) : entryFrame m #[(.int x), (.int y), .null] 3 = mkF m 0 #[.val (.int x), .val (.int y), .val .null] [] := by first | (simp [entryFrame, mkF, argsToLocals, Value.category]; done) | rfl
set_option maxRecDepth 65536 in
set_option maxHeartbeats 40000000 in
theorem c_pc_null (l : Launch) (Z : State) (a0 : Array Value) (hw : ∀ d ∈ tables_1, d.before a0 Z = true) (x : Int32) (y : Int32) (h0 : Heap) (n0 : Nat) (Z0 : n0 ≤ h0.size) (h1 : ¬ x < (0 : Int32)) (h2 : x < y) :
  Ctr l Z (⟨"jdk/internal/util/Preconditions", "checkIndex", "(IILjava/util/function/BiFunction;)I"⟩ : MethodName) jdk_41_method_11_code 3 (some .int) ({ frames := 0, cells := 0, slots := 0, locals := 0 } : Room) #[(.int x), (.int y), .null] h0 (PureI h0 n0 x) := by
 refine Ctr.of (plainFor_of_name pn_0) (fun m => ef_c_pc_null m x y) ?_
 intro p e s m below meth c T0 hx hby hml hown hnm hret hlk hZ e0 X0
 have N0 := Fr.nil n0
 replace hown : s.vm.findClass "jdk/internal/util/Preconditions" = some m.cls := hown
 replace hml : c.maxLocals = 3 := hml
 refine Run.x_iloadN (q := 1) X0 hx (hb hby d1_0) rfl rfl ?_
 refine Run.x_ifNo (q := 4) X0 hx (hb hby d1_1) ((if0 _ _).trans (flt h1).1) rfl ?_
 refine Run.x_iloadN (q := 5) X0 hx (hb hby d1_4) rfl rfl ?_
 refine Run.x_iloadN (q := 6) X0 hx (hb hby d1_5) rfl rfl ?_
 refine Run.x_icmpYes (q := 16) X0 hx (hb hby d1_6) (tlt h2).1 (by decide) (by decide) ?_
 refine Run.x_iloadN (q := 17) X0 hx (hb hby d1_16) rfl rfl ?_
 refine Run.retI X0 hx hlk e0 hret (hb hby d1_17) (by decide) (by decide) ?_
 exact PureI.mk (by rfl) N0
theorem ef_c_pc_sf (m : MethodId) (x : Int32) (y : Int32) (sf : Addr) : entryFrame m #[(.int x), (.int y), (.ref sf)] 3 = mkF m 0 #[.val (.int x), .val (.int y), .val (.ref sf)] [] := by first | (simp [entryFrame, mkF, argsToLocals, Value.category]; done) | rfl
set_option maxRecDepth 65536 in
set_option maxHeartbeats 40000000 in
theorem c_pc_sf (l : Launch) (Z : State) (a0 : Array Value) (hw : ∀ d ∈ tables_1, d.before a0 Z = true) (x : Int32) (y : Int32) (sf : Addr) (h0 : Heap) (n0 : Nat) (Z0 : n0 ≤ h0.size) (h1 : ¬ x < (0 : Int32)) (h2 : x < y) :
  Ctr l Z (⟨"jdk/internal/util/Preconditions", "checkIndex", "(IILjava/util/function/BiFunction;)I"⟩ : MethodName) jdk_41_method_11_code 3 (some .int) ({ frames := 0, cells := 0, slots := 0, locals := 0 } : Room) #[(.int x), (.int y), (.ref sf)] h0 (PureI h0 n0 x) := by
 refine Ctr.of (plainFor_of_name pn_0) (fun m => ef_c_pc_sf m x y sf) ?_
 intro p e s m below meth c T0 hx hby hml hown hnm hret hlk hZ e0 X0
 have N0 := Fr.nil n0
 replace hown : s.vm.findClass "jdk/internal/util/Preconditions" = some m.cls := hown
 replace hml : c.maxLocals = 3 := hml
 refine Run.x_iloadN (q := 1) X0 hx (hb hby d1_0) rfl rfl ?_
 refine Run.x_ifNo (q := 4) X0 hx (hb hby d1_1) ((if0 _ _).trans (flt h1).1) rfl ?_
 refine Run.x_iloadN (q := 5) X0 hx (hb hby d1_4) rfl rfl ?_
 refine Run.x_iloadN (q := 6) X0 hx (hb hby d1_5) rfl rfl ?_
 refine Run.x_icmpYes (q := 16) X0 hx (hb hby d1_6) (tlt h2).1 (by decide) (by decide) ?_
 refine Run.x_iloadN (q := 17) X0 hx (hb hby d1_16) rfl rfl ?_
 refine Run.retI X0 hx hlk e0 hret (hb hby d1_17) (by decide) (by decide) ?_
 exact PureI.mk (by rfl) N0
theorem d2_0 : decode jdk_42_method_155_code 0 = .ok (.iload_n 0, 1) := by decide +kernel
theorem d2_1 : decode jdk_42_method_155_code 1 = .ok (.iload_n 1, 1) := by decide +kernel
theorem d2_2 : decode jdk_42_method_155_code 2 = .ok (.getstatic 1053, 3) := by decide +kernel
theorem d2_5 : decode jdk_42_method_155_code 5 = .ok (.invokestatic 1059, 3) := by decide +kernel
theorem d2_8 : decode jdk_42_method_155_code 8 = .ok (.pop, 1) := by decide +kernel
theorem d2_9 : decode jdk_42_method_155_code 9 = .ok (.return_, 1) := by decide +kernel
theorem pn_1 : plainName "java/lang/String" = true := by first | (simp [plainName, overriddenIn]; done) | decide +kernel
theorem ef_c_chk (m : MethodId) (x : Int32) (y : Int32) : entryFrame m #[(.int x), (.int y)] 2 = mkF m 0 #[.val (.int x), .val (.int y)] [] := by first | (simp [entryFrame, mkF, argsToLocals, Value.category]; done) | rfl
theorem wm79 {a0 : Array Value} {Z : State} (hw : ∀ d ∈ tables_1, d.before a0 Z = true) : (Jvm.Cond.fieldLink "java/lang/String" (1053 : Nat) "jdk/internal/util/Preconditions" "SIOOBE_FORMATTER" "Ljava/util/function/BiFunction;").before a0 Z = true := hw _ (List.mem_of_getElem? (i := 79) rfl)
theorem wm81 {a0 : Array Value} {Z : State} (hw : ∀ d ∈ tables_1, d.before a0 Z = true) : (Jvm.Cond.methodLink "java/lang/String" (1059 : Nat) ({ cls := "jdk/internal/util/Preconditions", name := "checkIndex", desc := "(IILjava/util/function/BiFunction;)I" } : Jvm.MethodName)).before a0 Z = true := hw _ (List.mem_of_getElem? (i := 81) rfl)
theorem wm83 {a0 : Array Value} {Z : State} (hw : ∀ d ∈ tables_1, d.before a0 Z = true) : (Jvm.Cond.code ({ cls := "jdk/internal/util/Preconditions", name := "checkIndex", desc := "(IILjava/util/function/BiFunction;)I" } : Jvm.MethodName) jdk_41_method_11_code (3 : Nat) (Option.some Jvm.ClassFile.FieldType.int)).before a0 Z = true := hw _ (List.mem_of_getElem? (i := 83) rfl)
theorem pd_0 : parseMethodDescriptor "(IILjava/util/function/BiFunction;)I" = some ⟨[.int, .int, (.object "java/util/function/BiFunction")], some .int⟩ := by decide +kernel
theorem wm82 {a0 : Array Value} {Z : State} (hw : ∀ d ∈ tables_1, d.before a0 Z = true) : (Jvm.Cond.static ({ cls := "jdk/internal/util/Preconditions", name := "checkIndex", desc := "(IILjava/util/function/BiFunction;)I" } : Jvm.MethodName)).before a0 Z = true := hw _ (List.mem_of_getElem? (i := 82) rfl)
theorem wm80 {a0 : Array Value} {Z : State} (hw : ∀ d ∈ tables_1, d.before a0 Z = true) : (Jvm.Cond.initialized "jdk/internal/util/Preconditions").before a0 Z = true := hw _ (List.mem_of_getElem? (i := 80) rfl)
set_option maxRecDepth 65536 in
set_option maxHeartbeats 40000000 in
theorem c_chk (l : Launch) (Z : State) (a0 : Array Value) (hw : ∀ d ∈ tables_1, d.before a0 Z = true) (x : Int32) (y : Int32) (h0 : Heap) (n0 : Nat) (Z0 : n0 ≤ h0.size) (sf : Value) (S_SIOOBE_FORMATTER : Sta Z h0 "jdk/internal/util/Preconditions" "SIOOBE_FORMATTER" "Ljava/util/function/BiFunction;" sf) (hsf : sf.isRef = true) (h1 : ¬ x < (0 : Int32)) (h2 : x < y) :
  Ctr l Z (⟨"java/lang/String", "checkIndex", "(II)V"⟩ : MethodName) jdk_42_method_155_code 2 none ({ frames := 1, cells := 0, slots := 0, locals := 14 } : Room) #[(.int x), (.int y)] h0 (fun v h L => v = none ∧ Fr n0 L ∧ h = h0) := by
 refine Ctr.of (plainFor_of_name pn_1) (fun m => ef_c_chk m x y) ?_
 intro p e s m below meth c T0 hx hby hml hown hnm hret hlk hZ e0 X0
 have N0 := Fr.nil n0
 replace hown : s.vm.findClass "java/lang/String" = some m.cls := hown
 replace hml : c.maxLocals = 2 := hml
 refine Run.x_iloadN (q := 1) X0 hx (hb hby d2_0) rfl rfl ?_
 refine Run.x_iloadN (q := 2) X0 hx (hb hby d2_1) rfl rfl ?_
 obtain ⟨T1, X1, e1, st1⟩ := getS2 X0 hx hZ hown (host := "") (Or.inl (wm79 hw)) Via.refl e0 S_SIOOBE_FORMATTER (g := (mkF m 2 #[.val (.int x), .val (.int y)] [(.int y), (.int x)])) rfl (hb hby d2_2)
 refine Run.st st1 ?_
 show Run p e below s _ _ _ (T1.setTop (mkF m 5 #[.val (.int x), .val (.int y)] [sf, (.int y), (.int x)]))
 rcases ref_cases hsf with rfl | ⟨sfa, rfl⟩
 ·skip
  show Run p e below s _ _ _ (T1.setTop (mkF m 5 #[.val (.int x), .val (.int y)] [.null, (.int y), (.int x)]))
  refine Run.callSI (q := 8) X1 hx hZ e1 (y := (⟨"jdk/internal/util/Preconditions", "checkIndex", "(IILjava/util/function/BiFunction;)I"⟩ : MethodName)) hown (wm81 hw) (wm82 hw) (wm80 hw) (wm83 hw) (by decide) (argsL := [(.int x), (.int y), .null]) (rest := []) (c_pc_null l Z a0 hw x y h0 n0 Z0 h1 h2) pd_0 rfl (by rw [hml]; rfl) (W := 0) rfl (by decide) (by decide) (by decide) (by decide) (hb hby d2_5) rfl rfl fun T2 L2 X2 M2 e2 => ?_
  have N2 := Fr.app N0 M2
  refine Run.x_pop (q := 9) X2 hx (hb hby d2_8) rfl rfl ?_
  refine Run.retV X2 hx hlk e2 hret (hb hby d2_9) (by decide) (by decide) ?_
  exact ⟨rfl, N2, rfl⟩
 ·skip
  show Run p e below s _ _ _ (T1.setTop (mkF m 5 #[.val (.int x), .val (.int y)] [(.ref sfa), (.int y), (.int x)]))
  refine Run.callSI (q := 8) X1 hx hZ e1 (y := (⟨"jdk/internal/util/Preconditions", "checkIndex", "(IILjava/util/function/BiFunction;)I"⟩ : MethodName)) hown (wm81 hw) (wm82 hw) (wm80 hw) (wm83 hw) (by decide) (argsL := [(.int x), (.int y), (.ref sfa)]) (rest := []) (c_pc_sf l Z a0 hw x y sfa h0 n0 Z0 h1 h2) pd_0 rfl (by rw [hml]; rfl) (W := 0) rfl (by decide) (by decide) (by decide) (by decide) (hb hby d2_5) rfl rfl fun T3 L3 X3 M3 e3 => ?_
  have N3 := Fr.app N0 M3
  refine Run.x_pop (q := 9) X3 hx (hb hby d2_8) rfl rfl ?_
  refine Run.retV X3 hx hlk e3 hret (hb hby d2_9) (by decide) (by decide) ?_
  exact ⟨rfl, N3, rfl⟩
theorem d3_0 : decode jdk_43_method_2_code 0 = .ok (.iload_n 1, 1) := by decide +kernel
theorem d3_1 : decode jdk_43_method_2_code 1 = .ok (.aload_n 0, 1) := by decide +kernel
theorem d3_2 : decode jdk_43_method_2_code 2 = .ok (.arraylength, 1) := by decide +kernel
theorem d3_3 : decode jdk_43_method_2_code 3 = .ok (.invokestatic 9, 3) := by decide +kernel
theorem d3_6 : decode jdk_43_method_2_code 6 = .ok (.aload_n 0, 1) := by decide +kernel
theorem d3_7 : decode jdk_43_method_2_code 7 = .ok (.iload_n 1, 1) := by decide +kernel
theorem d3_8 : decode jdk_43_method_2_code 8 = .ok (.baload, 1) := by decide +kernel
theorem d3_9 : decode jdk_43_method_2_code 9 = .ok (.sipush 255, 3) := by decide +kernel
theorem d3_12 : decode jdk_43_method_2_code 12 = .ok (.iand, 1) := by decide +kernel
theorem d3_13 : decode jdk_43_method_2_code 13 = .ok (.i2c, 1) := by decide +kernel
theorem d3_14 : decode jdk_43_method_2_code 14 = .ok (.ireturn, 1) := by decide +kernel
theorem pn_2 : plainName "java/lang/StringLatin1" = true := by first | (simp [plainName, overriddenIn]; done) | decide +kernel
theorem ef_c_l1 (m : MethodId) (arr : Addr) (i : Int32) : entryFrame m #[(.ref arr), (.int i)] 2 = mkF m 0 #[.val (.ref arr), .val (.int i)] [] := by first | (simp [entryFrame, mkF, argsToLocals, Value.category]; done) | rfl
theorem wm76 {a0 : Array Value} {Z : State} (hw : ∀ d ∈ tables_1, d.before a0 Z = true) : (Jvm.Cond.methodLink "java/lang/StringLatin1" (9 : Nat) ({ cls := "java/lang/String", name := "checkIndex", desc := "(II)V" } : Jvm.MethodName)).before a0 Z = true := hw _ (List.mem_of_getElem? (i := 76) rfl)
theorem wm78 {a0 : Array Value} {Z : State} (hw : ∀ d ∈ tables_1, d.before a0 Z = true) : (Jvm.Cond.code ({ cls := "java/lang/String", name := "checkIndex", desc := "(II)V" } : Jvm.MethodName) jdk_42_method_155_code (2 : Nat) (Option.none : Option Jvm.ClassFile.FieldType)).before a0 Z = true := hw _ (List.mem_of_getElem? (i := 78) rfl)
theorem pd_1 : parseMethodDescriptor "(II)V" = some ⟨[.int, .int], none⟩ := by decide +kernel
theorem wm77 {a0 : Array Value} {Z : State} (hw : ∀ d ∈ tables_1, d.before a0 Z = true) : (Jvm.Cond.static ({ cls := "java/lang/String", name := "checkIndex", desc := "(II)V" } : Jvm.MethodName)).before a0 Z = true := hw _ (List.mem_of_getElem? (i := 77) rfl)
theorem wm8 {a0 : Array Value} {Z : State} (hw : ∀ d ∈ tables_1, d.before a0 Z = true) : (Jvm.Cond.initialized "java/lang/String").before a0 Z = true := hw _ (List.mem_of_getElem? (i := 8) rfl)
set_option maxRecDepth 65536 in
set_option maxHeartbeats 40000000 in
theorem c_l1 (l : Launch) (Z : State) (a0 : Array Value) (hw : ∀ d ∈ tables_1, d.before a0 Z = true) (arr : Addr) (i : Int32) (h0 : Heap) (n0 : Nat) (Z0 : n0 ≤ h0.size) (vs : List Value) (ln : Int32) (sf : Value) (ii : Nat) (x : Int32) (z : Int32) (A_arr : Ars Z h0 arr .byte vs) (S_SIOOBE_FORMATTER : Sta Z h0 "jdk/internal/util/Preconditions" "SIOOBE_FORMATTER" "Ljava/util/function/BiFunction;" sf) (hsf : sf.isRef = true) (hln : vs.length.toInt32 = ln) (hi : i.toInt = ii) (hv : vs[ii]? = some (.int x)) (h1 : ¬ i < (0 : Int32)) (h2 : i < ln) (hz : (x &&& (255 : Int32)).toUInt32.toUInt16.toUInt32.toInt32 = z) :
  Ctr l Z (⟨"java/lang/StringLatin1", "charAt", "([BI)C"⟩ : MethodName) jdk_43_method_2_code 2 (some .char) ({ frames := 2, cells := 0, slots := 0, locals := 27 } : Room) #[(.ref arr), (.int i)] h0 (PureI h0 n0 z) := by
 refine Ctr.of (plainFor_of_name pn_2) (fun m => ef_c_l1 m arr i) ?_
 intro p e s m below meth c T0 hx hby hml hown hnm hret hlk hZ e0 X0
 have N0 := Fr.nil n0
 replace hown : s.vm.findClass "java/lang/StringLatin1" = some m.cls := hown
 replace hml : c.maxLocals = 2 := hml
 refine Run.x_iloadN (q := 1) X0 hx (hb hby d3_0) rfl rfl ?_
 refine Run.x_aloadN (q := 2) X0 hx (hb hby d3_1) rfl rfl rfl ?_
 refine Run.y_alen (q := 3) X0 hx hZ e0 A_arr (z := ln) hln (hb hby d3_2) rfl ?_
 refine Run.callS X0 hx hZ e0 (y := (⟨"java/lang/String", "checkIndex", "(II)V"⟩ : MethodName)) hown (wm76 hw) (wm77 hw) (wm8 hw) (wm78 hw) (by decide) (argsL := [(.int i), (.int ln)]) (rest := []) (c_chk l Z a0 hw i ln h0 n0 Z0 sf S_SIOOBE_FORMATTER hsf h1 h2) pd_1 rfl (by rw [hml]; rfl) (W := 0) rfl (by decide) (by decide) (by decide) (by decide) (hb hby d3_3) rfl ?_
 intro T1 v1 L1 X1 q1
 obtain ⟨rfl, M1, e1⟩ := q1
 have N1 := Fr.app N0 M1
 show Run p e below s _ _ _ (T1.setTop (mkF m 6 #[.val (.ref arr), .val (.int i)] []))
 refine Run.x_aloadN (q := 7) X1 hx (hb hby d3_6) rfl rfl rfl ?_
 refine Run.x_iloadN (q := 8) X1 hx (hb hby d3_7) rfl rfl ?_
 refine Run.y_ldB (q := 9) X1 hx hZ e1 A_arr (i := ii) (v := (.int x)) hi hv (hb hby d3_8) rfl ?_
 refine Run.x_sipush (q := 12) X1 hx (hb hby d3_9) (z := (255 : Int32)) rfl rfl ?_
 refine Run.x_iand (q := 13) X1 hx (hb hby d3_12) rfl rfl ?_
 refine Run.x_i2c (q := 14) X1 hx (hb hby d3_13) rfl rfl ?_
 refine Run.retN X1 hx hlk e1 (t := .char) hret (by simp) (z' := (x &&& (255 : Int32)).toUInt32.toUInt16.toUInt32.toInt32) (nar_c _) (hb hby d3_14) (by decide) (by decide) ?_
 exact PureI.mk (by exact hz) N1
theorem d4_0 : decode jdk_52_method_6_code 0 = .ok (.aload_n 0, 1) := by decide +kernel
theorem d4_1 : decode jdk_52_method_6_code 1 = .ok (.arraylength, 1) := by decide +kernel
theorem d4_2 : decode jdk_52_method_6_code 2 = .ok (.iconst 1, 1) := by decide +kernel
theorem d4_3 : decode jdk_52_method_6_code 3 = .ok (.ishr, 1) := by decide +kernel
theorem d4_4 : decode jdk_52_method_6_code 4 = .ok (.ireturn, 1) := by decide +kernel
theorem pn_3 : plainName "java/lang/StringUTF16" = true := by first | (simp [plainName, overriddenIn]; done) | decide +kernel
theorem ef_c_uln (m : MethodId) (arr : Addr) : entryFrame m #[(.ref arr)] 1 = mkF m 0 #[.val (.ref arr)] [] := by first | (simp [entryFrame, mkF, argsToLocals, Value.category]; done) | rfl
set_option maxRecDepth 65536 in
set_option maxHeartbeats 40000000 in
theorem c_uln (l : Launch) (Z : State) (a0 : Array Value) (hw : ∀ d ∈ tables_1, d.before a0 Z = true) (arr : Addr) (h0 : Heap) (n0 : Nat) (Z0 : n0 ≤ h0.size) (vs : List Value) (ln : Int32) (z : Int32) (A_arr : Ars Z h0 arr .byte vs) (hln : vs.length.toInt32 = ln) (hz : ln >>> ((1 : Int32) &&& 31) = z) :
  Ctr l Z (⟨"java/lang/StringUTF16", "length", "([B)I"⟩ : MethodName) jdk_52_method_6_code 1 (some .int) ({ frames := 0, cells := 0, slots := 0, locals := 0 } : Room) #[(.ref arr)] h0 (PureI h0 n0 z) := by
 refine Ctr.of (plainFor_of_name pn_3) (fun m => ef_c_uln m arr) ?_
 intro p e s m below meth c T0 hx hby hml hown hnm hret hlk hZ e0 X0
 have N0 := Fr.nil n0
 replace hown : s.vm.findClass "java/lang/StringUTF16" = some m.cls := hown
 replace hml : c.maxLocals = 1 := hml
 refine Run.x_aloadN (q := 1) X0 hx (hb hby d4_0) rfl rfl rfl ?_
 refine Run.y_alen (q := 2) X0 hx hZ e0 A_arr (z := ln) hln (hb hby d4_1) rfl ?_
 refine Run.x_iconst (q := 3) X0 hx (hb hby d4_2) (z := (1 : Int32)) rfl rfl ?_
 refine Run.x_ishr (q := 4) X0 hx (hb hby d4_3) rfl rfl ?_
 refine Run.retI X0 hx hlk e0 hret (hb hby d4_4) (by decide) (by decide) ?_
 exact PureI.mk (by exact hz) N0
theorem d5_0 : decode jdk_52_method_91_code 0 = .ok (.iload_n 0, 1) := by decide +kernel
theorem d5_1 : decode jdk_52_method_91_code 1 = .ok (.aload_n 1, 1) := by decide +kernel
theorem d5_2 : decode jdk_52_method_91_code 2 = .ok (.invokestatic 48, 3) := by decide +kernel
theorem d5_5 : decode jdk_52_method_91_code 5 = .ok (.invokestatic 414, 3) := by decide +kernel
theorem d5_8 : decode jdk_52_method_91_code 8 = .ok (.return_, 1) := by decide +kernel
theorem ef_c_uck (m : MethodId) (i : Int32) (arr : Addr) : entryFrame m #[(.int i), (.ref arr)] 2 = mkF m 0 #[.val (.int i), .val (.ref arr)] [] := by first | (simp [entryFrame, mkF, argsToLocals, Value.category]; done) | rfl
theorem wm113 {a0 : Array Value} {Z : State} (hw : ∀ d ∈ tables_1, d.before a0 Z = true) : (Jvm.Cond.methodLink "java/lang/StringUTF16" (48 : Nat) ({ cls := "java/lang/StringUTF16", name := "length", desc := "([B)I" } : Jvm.MethodName)).before a0 Z = true := hw _ (List.mem_of_getElem? (i := 113) rfl)
theorem wm115 {a0 : Array Value} {Z : State} (hw : ∀ d ∈ tables_1, d.before a0 Z = true) : (Jvm.Cond.code ({ cls := "java/lang/StringUTF16", name := "length", desc := "([B)I" } : Jvm.MethodName) jdk_52_method_6_code (1 : Nat) (Option.some Jvm.ClassFile.FieldType.int)).before a0 Z = true := hw _ (List.mem_of_getElem? (i := 115) rfl)
theorem pd_2 : parseMethodDescriptor "([B)I" = some ⟨[(.array .byte)], some .int⟩ := by decide +kernel
theorem wm114 {a0 : Array Value} {Z : State} (hw : ∀ d ∈ tables_1, d.before a0 Z = true) : (Jvm.Cond.static ({ cls := "java/lang/StringUTF16", name := "length", desc := "([B)I" } : Jvm.MethodName)).before a0 Z = true := hw _ (List.mem_of_getElem? (i := 114) rfl)
theorem wm22 {a0 : Array Value} {Z : State} (hw : ∀ d ∈ tables_1, d.before a0 Z = true) : (Jvm.Cond.initialized "java/lang/StringUTF16").before a0 Z = true := hw _ (List.mem_of_getElem? (i := 22) rfl)
theorem wm116 {a0 : Array Value} {Z : State} (hw : ∀ d ∈ tables_1, d.before a0 Z = true) : (Jvm.Cond.methodLink "java/lang/StringUTF16" (414 : Nat) ({ cls := "java/lang/String", name := "checkIndex", desc := "(II)V" } : Jvm.MethodName)).before a0 Z = true := hw _ (List.mem_of_getElem? (i := 116) rfl)
set_option maxRecDepth 65536 in
set_option maxHeartbeats 40000000 in
theorem c_uck (l : Launch) (Z : State) (a0 : Array Value) (hw : ∀ d ∈ tables_1, d.before a0 Z = true) (i : Int32) (arr : Addr) (h0 : Heap) (n0 : Nat) (Z0 : n0 ≤ h0.size) (vs : List Value) (ln : Int32) (sf : Value) (l2 : Int32) (A_arr : Ars Z h0 arr .byte vs) (S_SIOOBE_FORMATTER : Sta Z h0 "jdk/internal/util/Preconditions" "SIOOBE_FORMATTER" "Ljava/util/function/BiFunction;" sf) (hsf : sf.isRef = true) (hln : vs.length.toInt32 = ln) (hl2 : ln >>> ((1 : Int32) &&& 31) = l2) (h1 : ¬ i < (0 : Int32)) (h2 : i < l2) :
  Ctr l Z (⟨"java/lang/StringUTF16", "checkIndex", "(I[B)V"⟩ : MethodName) jdk_52_method_91_code 2 none ({ frames := 2, cells := 0, slots := 0, locals := 27 } : Room) #[(.int i), (.ref arr)] h0 (fun v h L => v = none ∧ Fr n0 L ∧ h = h0) := by
 refine Ctr.of (plainFor_of_name pn_3) (fun m => ef_c_uck m i arr) ?_
 intro p e s m below meth c T0 hx hby hml hown hnm hret hlk hZ e0 X0
 have N0 := Fr.nil n0
 replace hown : s.vm.findClass "java/lang/StringUTF16" = some m.cls := hown
 replace hml : c.maxLocals = 2 := hml
 refine Run.x_iloadN (q := 1) X0 hx (hb hby d5_0) rfl rfl ?_
 refine Run.x_aloadN (q := 2) X0 hx (hb hby d5_1) rfl rfl rfl ?_
 refine Run.callSI (q := 5) X0 hx hZ e0 (y := (⟨"java/lang/StringUTF16", "length", "([B)I"⟩ : MethodName)) hown (wm113 hw) (wm114 hw) (wm22 hw) (wm115 hw) (by decide) (argsL := [(.ref arr)]) (rest := [(.int i)]) (c_uln l Z a0 hw arr h0 n0 Z0 vs ln l2 A_arr hln hl2) pd_2 rfl (by rw [hml]; rfl) (W := 1) rfl (by decide) (by decide) (by decide) (by decide) (hb hby d5_2) rfl rfl fun T1 L1 X1 M1 e1 => ?_
 have N1 := Fr.app N0 M1
 refine Run.callS X1 hx hZ e1 (y := (⟨"java/lang/String", "checkIndex", "(II)V"⟩ : MethodName)) hown (wm116 hw) (wm77 hw) (wm8 hw) (wm78 hw) (by decide) (argsL := [(.int i), (.int l2)]) (rest := []) (c_chk l Z a0 hw i l2 h0 n0 Z0 sf S_SIOOBE_FORMATTER hsf h1 h2) pd_1 rfl (by rw [hml]; rfl) (W := 0) rfl (by decide) (by decide) (by decide) (by decide) (hb hby d5_5) rfl ?_
 intro T2 v2 L2 X2 q2
 obtain ⟨rfl, M2, e2⟩ := q2
 have N2 := Fr.app N1 M2
 show Run p e below s _ _ _ (T2.setTop (mkF m 8 #[.val (.int i), .val (.ref arr)] []))
 refine Run.retV X2 hx hlk e2 hret (hb hby d5_8) (by decide) (by decide) ?_
 exact ⟨rfl, N2, rfl⟩
theorem d6_0 : decode jdk_52_method_5_code 0 = .ok (.getstatic 44, 3) := by decide +kernel
theorem d6_3 : decode jdk_52_method_5_code 3 = .ok (.ifCond .ne 25, 3) := by decide +kernel
theorem d6_6 : decode jdk_52_method_5_code 6 = .ok (.iload_n 1, 1) := by decide +kernel
theorem d6_7 : decode jdk_52_method_5_code 7 = .ok (.ifCond .lt 11, 3) := by decide +kernel
theorem d6_10 : decode jdk_52_method_5_code 10 = .ok (.iload_n 1, 1) := by decide +kernel
theorem d6_11 : decode jdk_52_method_5_code 11 = .ok (.aload_n 0, 1) := by decide +kernel
theorem d6_12 : decode jdk_52_method_5_code 12 = .ok (.invokestatic 48, 3) := by decide +kernel
theorem d6_15 : decode jdk_52_method_5_code 15 = .ok (.if_icmp .lt 13, 3) := by decide +kernel
theorem d6_18 : decode jdk_52_method_5_code 18 = .ok (.new 52, 3) := by decide +kernel
theorem d6_21 : decode jdk_52_method_5_code 21 = .ok (.dup, 1) := by decide +kernel
theorem d6_22 : decode jdk_52_method_5_code 22 = .ok (.ldc 54, 2) := by decide +kernel
theorem d6_24 : decode jdk_52_method_5_code 24 = .ok (.invokespecial 56, 3) := by decide +kernel
theorem d6_27 : decode jdk_52_method_5_code 27 = .ok (.athrow, 1) := by decide +kernel
theorem d6_28 : decode jdk_52_method_5_code 28 = .ok (.iload_n 1, 1) := by decide +kernel
theorem d6_29 : decode jdk_52_method_5_code 29 = .ok (.iconst 1, 1) := by decide +kernel
theorem d6_30 : decode jdk_52_method_5_code 30 = .ok (.ishl, 1) := by decide +kernel
theorem d6_31 : decode jdk_52_method_5_code 31 = .ok (.istore_n 1, 1) := by decide +kernel
theorem d6_32 : decode jdk_52_method_5_code 32 = .ok (.aload_n 0, 1) := by decide +kernel
theorem d6_33 : decode jdk_52_method_5_code 33 = .ok (.iload_n 1, 1) := by decide +kernel
theorem d6_34 : decode jdk_52_method_5_code 34 = .ok (.iinc 1 1, 3) := by decide +kernel
theorem d6_37 : decode jdk_52_method_5_code 37 = .ok (.baload, 1) := by decide +kernel
theorem d6_38 : decode jdk_52_method_5_code 38 = .ok (.sipush 255, 3) := by decide +kernel
theorem d6_41 : decode jdk_52_method_5_code 41 = .ok (.iand, 1) := by decide +kernel
theorem d6_42 : decode jdk_52_method_5_code 42 = .ok (.getstatic 59, 3) := by decide +kernel
theorem d6_45 : decode jdk_52_method_5_code 45 = .ok (.ishl, 1) := by decide +kernel
theorem d6_46 : decode jdk_52_method_5_code 46 = .ok (.aload_n 0, 1) := by decide +kernel
theorem d6_47 : decode jdk_52_method_5_code 47 = .ok (.iload_n 1, 1) := by decide +kernel
theorem d6_48 : decode jdk_52_method_5_code 48 = .ok (.baload, 1) := by decide +kernel
theorem d6_49 : decode jdk_52_method_5_code 49 = .ok (.sipush 255, 3) := by decide +kernel
theorem d6_52 : decode jdk_52_method_5_code 52 = .ok (.iand, 1) := by decide +kernel
theorem d6_53 : decode jdk_52_method_5_code 53 = .ok (.getstatic 63, 3) := by decide +kernel
theorem d6_56 : decode jdk_52_method_5_code 56 = .ok (.ishl, 1) := by decide +kernel
theorem d6_57 : decode jdk_52_method_5_code 57 = .ok (.ior, 1) := by decide +kernel
theorem d6_58 : decode jdk_52_method_5_code 58 = .ok (.i2c, 1) := by decide +kernel
theorem d6_59 : decode jdk_52_method_5_code 59 = .ok (.ireturn, 1) := by decide +kernel
theorem ef_c_get (m : MethodId) (arr : Addr) (i : Int32) : entryFrame m #[(.ref arr), (.int i)] 2 = mkF m 0 #[.val (.ref arr), .val (.int i)] [] := by first | (simp [entryFrame, mkF, argsToLocals, Value.category]; done) | rfl
theorem wm98 {a0 : Array Value} {Z : State} (hw : ∀ d ∈ tables_1, d.before a0 Z = true) : (Jvm.Cond.fieldLink "java/lang/StringUTF16" (44 : Nat) "java/lang/StringUTF16" "$assertionsDisabled" "Z").before a0 Z = true := hw _ (List.mem_of_getElem? (i := 98) rfl)
theorem wm99 {a0 : Array Value} {Z : State} (hw : ∀ d ∈ tables_1, d.before a0 Z = true) : (Jvm.Cond.fieldLink "java/lang/StringUTF16" (59 : Nat) "java/lang/StringUTF16" "HI_BYTE_SHIFT" "I").before a0 Z = true := hw _ (List.mem_of_getElem? (i := 99) rfl)
theorem wm100 {a0 : Array Value} {Z : State} (hw : ∀ d ∈ tables_1, d.before a0 Z = true) : (Jvm.Cond.fieldLink "java/lang/StringUTF16" (63 : Nat) "java/lang/StringUTF16" "LO_BYTE_SHIFT" "I").before a0 Z = true := hw _ (List.mem_of_getElem? (i := 100) rfl)
set_option maxRecDepth 65536 in
set_option maxHeartbeats 40000000 in
theorem c_get (l : Launch) (Z : State) (a0 : Array Value) (hw : ∀ d ∈ tables_1, d.before a0 Z = true) (arr : Addr) (i : Int32) (h0 : Heap) (n0 : Nat) (Z0 : n0 ≤ h0.size) (vs : List Value) (jj : Nat) (x0 : Int32) (x1 : Int32) (z : Int32) (A_arr : Ars Z h0 arr .byte vs) (S__assertionsDisabled : Sta Z h0 "java/lang/StringUTF16" "$assertionsDisabled" "Z" (.int 1)) (S_HI_BYTE_SHIFT : Sta Z h0 "java/lang/StringUTF16" "HI_BYTE_SHIFT" "I" (.int 0)) (S_LO_BYTE_SHIFT : Sta Z h0 "java/lang/StringUTF16" "LO_BYTE_SHIFT" "I" (.int 8)) (hj0 : (i <<< ((1 : Int32) &&& 31)).toInt = jj) (hj1 : ((i <<< ((1 : Int32) &&& 31)) + (1 : Int32)).toInt = (jj + 1 : Nat)) (hv0 : vs[jj]? = some (.int x0)) (hv1 : vs[jj + 1]? = some (.int x1)) (hz : ((x0 &&& (255 : Int32)) <<< ((0 : Int32) &&& 31) ||| (x1 &&& (255 : Int32)) <<< ((8 : Int32) &&& 31)).toUInt32.toUInt16.toUInt32.toInt32 = z) :
  Ctr l Z (⟨"java/lang/StringUTF16", "getChar", "([BI)C"⟩ : MethodName) jdk_52_method_5_code 2 (some .char) ({ frames := 0, cells := 0, slots := 0, locals := 0 } : Room) #[(.ref arr), (.int i)] h0 (PureI h0 n0 z) := by
 refine Ctr.of (plainFor_of_name pn_3) (fun m => ef_c_get m arr i) ?_
 intro p e s m below meth c T0 hx hby hml hown hnm hret hlk hZ e0 X0
 have N0 := Fr.nil n0
 replace hown : s.vm.findClass "java/lang/StringUTF16" = some m.cls := hown
 replace hml : c.maxLocals = 2 := hml
 obtain ⟨T1, X1, e1, st1⟩ := getS2 X0 hx hZ hown (host := "") (Or.inl (wm98 hw)) Via.refl e0 S__assertionsDisabled (g := (mkF m 0 #[.val (.ref arr), .val (.int i)] [])) rfl (hb hby d6_0)
 refine Run.st st1 ?_
 show Run p e below s _ _ _ (T1.setTop (mkF m 3 #[.val (.ref arr), .val (.int i)] [(.int 1)]))
 refine Run.x_ifYes (q := 28) X1 hx (hb hby d6_3) ((if0 _ _).trans (feq (by decide : ¬ ((1 : Int32) = (0 : Int32)))).2) (by decide) (by decide) ?_
 refine Run.x_iloadN (q := 29) X1 hx (hb hby d6_28) rfl rfl ?_
 refine Run.x_iconst (q := 30) X1 hx (hb hby d6_29) (z := (1 : Int32)) rfl rfl ?_
 refine Run.x_ishl (q := 31) X1 hx (hb hby d6_30) rfl rfl ?_
 refine Run.x_istoreN (q := 32) X1 hx #[.val (.ref arr), .val (.int (i <<< ((1 : Int32) &&& 31)))] (hb hby d6_31) rfl rfl ?_
 refine Run.x_aloadN (q := 33) X1 hx (hb hby d6_32) rfl rfl rfl ?_
 refine Run.x_iloadN (q := 34) X1 hx (hb hby d6_33) rfl rfl ?_
 refine Run.x_iinc (q := 37) X1 hx #[.val (.ref arr), .val (.int ((i <<< ((1 : Int32) &&& 31)) + (1 : Int32)))] (hb hby d6_34) rfl (z := ((i <<< ((1 : Int32) &&& 31)) + (1 : Int32))) rfl rfl rfl ?_
 refine Run.y_ldB (q := 38) X1 hx hZ e1 A_arr (i := jj) (v := (.int x0)) hj0 hv0 (hb hby d6_37) rfl ?_
 refine Run.x_sipush (q := 41) X1 hx (hb hby d6_38) (z := (255 : Int32)) rfl rfl ?_
 refine Run.x_iand (q := 42) X1 hx (hb hby d6_41) rfl rfl ?_
 obtain ⟨T2, X2, e2, st2⟩ := getS2 X1 hx hZ hown (host := "") (Or.inl (wm99 hw)) Via.refl e1 S_HI_BYTE_SHIFT (g := (mkF m 42 #[.val (.ref arr), .val (.int ((i <<< ((1 : Int32) &&& 31)) + (1 : Int32)))] [(.int (x0 &&& (255 : Int32)))])) rfl (hb hby d6_42)
 refine Run.st st2 ?_
 show Run p e below s _ _ _ (T2.setTop (mkF m 45 #[.val (.ref arr), .val (.int ((i <<< ((1 : Int32) &&& 31)) + (1 : Int32)))] [(.int 0), (.int (x0 &&& (255 : Int32)))]))
 refine Run.x_ishl (q := 46) X2 hx (hb hby d6_45) rfl rfl ?_
 refine Run.x_aloadN (q := 47) X2 hx (hb hby d6_46) rfl rfl rfl ?_
 refine Run.x_iloadN (q := 48) X2 hx (hb hby d6_47) rfl rfl ?_
 refine Run.y_ldB (q := 49) X2 hx hZ e2 A_arr (i := (jj + 1)) (v := (.int x1)) hj1 hv1 (hb hby d6_48) rfl ?_
 refine Run.x_sipush (q := 52) X2 hx (hb hby d6_49) (z := (255 : Int32)) rfl rfl ?_
 refine Run.x_iand (q := 53) X2 hx (hb hby d6_52) rfl rfl ?_
 obtain ⟨T3, X3, e3, st3⟩ := getS2 X2 hx hZ hown (host := "") (Or.inl (wm100 hw)) Via.refl e2 S_LO_BYTE_SHIFT (g := (mkF m 53 #[.val (.ref arr), .val (.int ((i <<< ((1 : Int32) &&& 31)) + (1 : Int32)))] [(.int (x1 &&& (255 : Int32))), (.int ((x0 &&& (255 : Int32)) <<< ((0 : Int32) &&& 31)))])) rfl (hb hby d6_53)
 refine Run.st st3 ?_
 show Run p e below s _ _ _ (T3.setTop (mkF m 56 #[.val (.ref arr), .val (.int ((i <<< ((1 : Int32) &&& 31)) + (1 : Int32)))] [(.int 8), (.int (x1 &&& (255 : Int32))), (.int ((x0 &&& (255 : Int32)) <<< ((0 : Int32) &&& 31)))]))
 refine Run.x_ishl (q := 57) X3 hx (hb hby d6_56) rfl rfl ?_
 refine Run.x_ior (q := 58) X3 hx (hb hby d6_57) rfl rfl ?_
 refine Run.x_i2c (q := 59) X3 hx (hb hby d6_58) rfl rfl ?_
 refine Run.retN X3 hx hlk e3 (t := .char) hret (by simp) (z' := (((x0 &&& (255 : Int32)) <<< ((0 : Int32) &&& 31)) ||| ((x1 &&& (255 : Int32)) <<< ((8 : Int32) &&& 31))).toUInt32.toUInt16.toUInt32.toInt32) (nar_c _) (hb hby d6_59) (by decide) (by decide) ?_
 exact PureI.mk (by exact hz) N0
theorem d7_0 : decode jdk_52_method_83_code 0 = .ok (.iload_n 1, 1) := by decide +kernel
theorem d7_1 : decode jdk_52_method_83_code 1 = .ok (.aload_n 0, 1) := by decide +kernel
theorem d7_2 : decode jdk_52_method_83_code 2 = .ok (.invokestatic 67, 3) := by decide +kernel
theorem d7_5 : decode jdk_52_method_83_code 5 = .ok (.aload_n 0, 1) := by decide +kernel
theorem d7_6 : decode jdk_52_method_83_code 6 = .ok (.iload_n 1, 1) := by decide +kernel
theorem d7_7 : decode jdk_52_method_83_code 7 = .ok (.invokestatic 71, 3) := by decide +kernel
theorem d7_10 : decode jdk_52_method_83_code 10 = .ok (.ireturn, 1) := by decide +kernel
theorem ef_c_uca (m : MethodId) (arr : Addr) (i : Int32) : entryFrame m #[(.ref arr), (.int i)] 2 = mkF m 0 #[.val (.ref arr), .val (.int i)] [] := by first | (simp [entryFrame, mkF, argsToLocals, Value.category]; done) | rfl
theorem wm110 {a0 : Array Value} {Z : State} (hw : ∀ d ∈ tables_1, d.before a0 Z = true) : (Jvm.Cond.methodLink "java/lang/StringUTF16" (67 : Nat) ({ cls := "java/lang/StringUTF16", name := "checkIndex", desc := "(I[B)V" } : Jvm.MethodName)).before a0 Z = true := hw _ (List.mem_of_getElem? (i := 110) rfl)
theorem wm112 {a0 : Array Value} {Z : State} (hw : ∀ d ∈ tables_1, d.before a0 Z = true) : (Jvm.Cond.code ({ cls := "java/lang/StringUTF16", name := "checkIndex", desc := "(I[B)V" } : Jvm.MethodName) jdk_52_method_91_code (2 : Nat) (Option.none : Option Jvm.ClassFile.FieldType)).before a0 Z = true := hw _ (List.mem_of_getElem? (i := 112) rfl)
theorem pd_3 : parseMethodDescriptor "(I[B)V" = some ⟨[.int, (.array .byte)], none⟩ := by decide +kernel
theorem wm111 {a0 : Array Value} {Z : State} (hw : ∀ d ∈ tables_1, d.before a0 Z = true) : (Jvm.Cond.static ({ cls := "java/lang/StringUTF16", name := "checkIndex", desc := "(I[B)V" } : Jvm.MethodName)).before a0 Z = true := hw _ (List.mem_of_getElem? (i := 111) rfl)
theorem wm101 {a0 : Array Value} {Z : State} (hw : ∀ d ∈ tables_1, d.before a0 Z = true) : (Jvm.Cond.methodLink "java/lang/StringUTF16" (71 : Nat) ({ cls := "java/lang/StringUTF16", name := "getChar", desc := "([BI)C" } : Jvm.MethodName)).before a0 Z = true := hw _ (List.mem_of_getElem? (i := 101) rfl)
theorem wm103 {a0 : Array Value} {Z : State} (hw : ∀ d ∈ tables_1, d.before a0 Z = true) : (Jvm.Cond.code ({ cls := "java/lang/StringUTF16", name := "getChar", desc := "([BI)C" } : Jvm.MethodName) jdk_52_method_5_code (2 : Nat) (Option.some Jvm.ClassFile.FieldType.char)).before a0 Z = true := hw _ (List.mem_of_getElem? (i := 103) rfl)
theorem pd_4 : parseMethodDescriptor "([BI)C" = some ⟨[(.array .byte), .int], some .char⟩ := by decide +kernel
theorem wm102 {a0 : Array Value} {Z : State} (hw : ∀ d ∈ tables_1, d.before a0 Z = true) : (Jvm.Cond.static ({ cls := "java/lang/StringUTF16", name := "getChar", desc := "([BI)C" } : Jvm.MethodName)).before a0 Z = true := hw _ (List.mem_of_getElem? (i := 102) rfl)
set_option maxRecDepth 65536 in
set_option maxHeartbeats 40000000 in
theorem c_uca (l : Launch) (Z : State) (a0 : Array Value) (hw : ∀ d ∈ tables_1, d.before a0 Z = true) (arr : Addr) (i : Int32) (h0 : Heap) (n0 : Nat) (Z0 : n0 ≤ h0.size) (vs : List Value) (ln : Int32) (sf : Value) (l2 : Int32) (jj : Nat) (x0 : Int32) (x1 : Int32) (z : Int32) (A_arr : Ars Z h0 arr .byte vs) (S__assertionsDisabled : Sta Z h0 "java/lang/StringUTF16" "$assertionsDisabled" "Z" (.int 1)) (S_HI_BYTE_SHIFT : Sta Z h0 "java/lang/StringUTF16" "HI_BYTE_SHIFT" "I" (.int 0)) (S_LO_BYTE_SHIFT : Sta Z h0 "java/lang/StringUTF16" "LO_BYTE_SHIFT" "I" (.int 8)) (S_SIOOBE_FORMATTER : Sta Z h0 "jdk/internal/util/Preconditions" "SIOOBE_FORMATTER" "Ljava/util/function/BiFunction;" sf) (hsf : sf.isRef = true) (hln : vs.length.toInt32 = ln) (hl2 : ln >>> ((1 : Int32) &&& 31) = l2) (h1 : ¬ i < (0 : Int32)) (h2 : i < l2) (hj0 : (i <<< ((1 : Int32) &&& 31)).toInt = jj) (hj1 : ((i <<< ((1 : Int32) &&& 31)) + (1 : Int32)).toInt = (jj + 1 : Nat)) (hv0 : vs[jj]? = some (.int x0)) (hv1 : vs[jj + 1]? = some (.int x1)) (hz : ((x0 &&& (255 : Int32)) <<< ((0 : Int32) &&& 31) ||| (x1 &&& (255 : Int32)) <<< ((8 : Int32) &&& 31)).toUInt32.toUInt16.toUInt32.toInt32 = z) (hnz : nar .char z = z) :
  Ctr l Z (⟨"java/lang/StringUTF16", "charAt", "([BI)C"⟩ : MethodName) jdk_52_method_83_code 2 (some .char) ({ frames := 3, cells := 0, slots := 0, locals := 40 } : Room) #[(.ref arr), (.int i)] h0 (PureI h0 n0 z) := by
 refine Ctr.of (plainFor_of_name pn_3) (fun m => ef_c_uca m arr i) ?_
 intro p e s m below meth c T0 hx hby hml hown hnm hret hlk hZ e0 X0
 have N0 := Fr.nil n0
 replace hown : s.vm.findClass "java/lang/StringUTF16" = some m.cls := hown
 replace hml : c.maxLocals = 2 := hml
 refine Run.x_iloadN (q := 1) X0 hx (hb hby d7_0) rfl rfl ?_
 refine Run.x_aloadN (q := 2) X0 hx (hb hby d7_1) rfl rfl rfl ?_
 refine Run.callS X0 hx hZ e0 (y := (⟨"java/lang/StringUTF16", "checkIndex", "(I[B)V"⟩ : MethodName)) hown (wm110 hw) (wm111 hw) (wm22 hw) (wm112 hw) (by decide) (argsL := [(.int i), (.ref arr)]) (rest := []) (c_uck l Z a0 hw i arr h0 n0 Z0 vs ln sf l2 A_arr S_SIOOBE_FORMATTER hsf hln hl2 h1 h2) pd_3 rfl (by rw [hml]; rfl) (W := 0) rfl (by decide) (by decide) (by decide) (by decide) (hb hby d7_2) rfl ?_
 intro T1 v1 L1 X1 q1
 obtain ⟨rfl, M1, e1⟩ := q1
 have N1 := Fr.app N0 M1
 show Run p e below s _ _ _ (T1.setTop (mkF m 5 #[.val (.ref arr), .val (.int i)] []))
 refine Run.x_aloadN (q := 6) X1 hx (hb hby d7_5) rfl rfl rfl ?_
 refine Run.x_iloadN (q := 7) X1 hx (hb hby d7_6) rfl rfl ?_
 refine Run.callSI (q := 10) X1 hx hZ e1 (y := (⟨"java/lang/StringUTF16", "getChar", "([BI)C"⟩ : MethodName)) hown (wm101 hw) (wm102 hw) (wm22 hw) (wm103 hw) (by decide) (argsL := [(.ref arr), (.int i)]) (rest := []) (c_get l Z a0 hw arr i h0 n0 Z0 vs jj x0 x1 z A_arr S__assertionsDisabled S_HI_BYTE_SHIFT S_LO_BYTE_SHIFT hj0 hj1 hv0 hv1 hz) pd_4 rfl (by rw [hml]; rfl) (W := 0) rfl (by decide) (by decide) (by decide) (by decide) (hb hby d7_7) rfl rfl fun T2 L2 X2 M2 e2 => ?_
 have N2 := Fr.app N1 M2
 refine Run.retN X2 hx hlk e2 (t := .char) hret (by simp) (z' := z) hnz (hb hby d7_10) (by decide) (by decide) ?_
 exact PureI.mk (by rfl) N2
theorem d8_0 : decode jdk_52_method_4_code 0 = .ok (.getstatic 44, 3) := by decide +kernel
theorem d8_3 : decode jdk_52_method_4_code 3 = .ok (.ifCond .ne 25, 3) := by decide +kernel
theorem d8_6 : decode jdk_52_method_4_code 6 = .ok (.iload_n 1, 1) := by decide +kernel
theorem d8_7 : decode jdk_52_method_4_code 7 = .ok (.ifCond .lt 11, 3) := by decide +kernel
theorem d8_10 : decode jdk_52_method_4_code 10 = .ok (.iload_n 1, 1) := by decide +kernel
theorem d8_11 : decode jdk_52_method_4_code 11 = .ok (.aload_n 0, 1) := by decide +kernel
theorem d8_12 : decode jdk_52_method_4_code 12 = .ok (.invokestatic 48, 3) := by decide +kernel
theorem d8_15 : decode jdk_52_method_4_code 15 = .ok (.if_icmp .lt 13, 3) := by decide +kernel
theorem d8_18 : decode jdk_52_method_4_code 18 = .ok (.new 52, 3) := by decide +kernel
theorem d8_21 : decode jdk_52_method_4_code 21 = .ok (.dup, 1) := by decide +kernel
theorem d8_22 : decode jdk_52_method_4_code 22 = .ok (.ldc 54, 2) := by decide +kernel
theorem d8_24 : decode jdk_52_method_4_code 24 = .ok (.invokespecial 56, 3) := by decide +kernel
theorem d8_27 : decode jdk_52_method_4_code 27 = .ok (.athrow, 1) := by decide +kernel
theorem d8_28 : decode jdk_52_method_4_code 28 = .ok (.iload_n 1, 1) := by decide +kernel
theorem d8_29 : decode jdk_52_method_4_code 29 = .ok (.iconst 1, 1) := by decide +kernel
theorem d8_30 : decode jdk_52_method_4_code 30 = .ok (.ishl, 1) := by decide +kernel
theorem d8_31 : decode jdk_52_method_4_code 31 = .ok (.istore_n 1, 1) := by decide +kernel
theorem d8_32 : decode jdk_52_method_4_code 32 = .ok (.aload_n 0, 1) := by decide +kernel
theorem d8_33 : decode jdk_52_method_4_code 33 = .ok (.iload_n 1, 1) := by decide +kernel
theorem d8_34 : decode jdk_52_method_4_code 34 = .ok (.iinc 1 1, 3) := by decide +kernel
theorem d8_37 : decode jdk_52_method_4_code 37 = .ok (.iload_n 2, 1) := by decide +kernel
theorem d8_38 : decode jdk_52_method_4_code 38 = .ok (.getstatic 59, 3) := by decide +kernel
theorem d8_41 : decode jdk_52_method_4_code 41 = .ok (.ishr, 1) := by decide +kernel
theorem d8_42 : decode jdk_52_method_4_code 42 = .ok (.i2b, 1) := by decide +kernel
theorem d8_43 : decode jdk_52_method_4_code 43 = .ok (.bastore, 1) := by decide +kernel
theorem d8_44 : decode jdk_52_method_4_code 44 = .ok (.aload_n 0, 1) := by decide +kernel
theorem d8_45 : decode jdk_52_method_4_code 45 = .ok (.iload_n 1, 1) := by decide +kernel
theorem d8_46 : decode jdk_52_method_4_code 46 = .ok (.iload_n 2, 1) := by decide +kernel
theorem d8_47 : decode jdk_52_method_4_code 47 = .ok (.getstatic 63, 3) := by decide +kernel
theorem d8_50 : decode jdk_52_method_4_code 50 = .ok (.ishr, 1) := by decide +kernel
theorem d8_51 : decode jdk_52_method_4_code 51 = .ok (.i2b, 1) := by decide +kernel
theorem d8_52 : decode jdk_52_method_4_code 52 = .ok (.bastore, 1) := by decide +kernel
theorem d8_53 : decode jdk_52_method_4_code 53 = .ok (.return_, 1) := by decide +kernel
theorem ef_c_put (m : MethodId) (arr : Addr) (i : Int32) (ch : Int32) : entryFrame m #[(.ref arr), (.int i), (.int ch)] 3 = mkF m 0 #[.val (.ref arr), .val (.int i), .val (.int ch)] [] := by first | (simp [entryFrame, mkF, argsToLocals, Value.category]; done) | rfl
set_option maxRecDepth 65536 in
set_option maxHeartbeats 40000000 in
theorem c_put (l : Launch) (Z : State) (a0 : Array Value) (hw : ∀ d ∈ tables_1, d.before a0 Z = true) (arr : Addr) (i : Int32) (ch : Int32) (h0 : Heap) (n0 : Nat) (Z0 : n0 ≤ h0.size) (vs : List Value) (jj : Nat) (A_arr : Ars Z h0 arr .byte vs) (S__assertionsDisabled : Sta Z h0 "java/lang/StringUTF16" "$assertionsDisabled" "Z" (.int 1)) (S_HI_BYTE_SHIFT : Sta Z h0 "java/lang/StringUTF16" "HI_BYTE_SHIFT" "I" (.int 0)) (S_LO_BYTE_SHIFT : Sta Z h0 "java/lang/StringUTF16" "LO_BYTE_SHIFT" "I" (.int 8)) (g_arr : n0 ≤ arr) (hj0 : (i <<< ((1 : Int32) &&& 31)).toInt = jj) (hj1 : ((i <<< ((1 : Int32) &&& 31)) + (1 : Int32)).toInt = (jj + 1 : Nat)) (hl : jj + 1 < vs.length) :
  Ctr l Z (⟨"java/lang/StringUTF16", "putChar", "([BII)V"⟩ : MethodName) jdk_52_method_4_code 3 none ({ frames := 0, cells := 0, slots := 0, locals := 0 } : Room) #[(.ref arr), (.int i), (.int ch)] h0 (fun v h L => v = none ∧ Fr n0 L ∧ Keep h0 h [arr] ∧ Ars Z h arr .byte ((vs.set jj (.int (ch >>> ((0 : Int32) &&& 31)).toInt8.toInt32)).set (jj + 1) (.int (ch >>> ((8 : Int32) &&& 31)).toInt8.toInt32))) := by
 refine Ctr.of (plainFor_of_name pn_3) (fun m => ef_c_put m arr i ch) ?_
 intro p e s m below meth c T0 hx hby hml hown hnm hret hlk hZ e0 X0
 have N0 := Fr.nil n0
 replace hown : s.vm.findClass "java/lang/StringUTF16" = some m.cls := hown
 replace hml : c.maxLocals = 3 := hml
 have KP := Keep.refl h0 [arr]
 obtain ⟨T1, X1, e1, st1⟩ := getS2 X0 hx hZ hown (host := "") (Or.inl (wm98 hw)) Via.refl e0 S__assertionsDisabled (g := (mkF m 0 #[.val (.ref arr), .val (.int i), .val (.int ch)] [])) rfl (hb hby d8_0)
 refine Run.st st1 ?_
 show Run p e below s _ _ _ (T1.setTop (mkF m 3 #[.val (.ref arr), .val (.int i), .val (.int ch)] [(.int 1)]))
 refine Run.x_ifYes (q := 28) X1 hx (hb hby d8_3) ((if0 _ _).trans (feq (by decide : ¬ ((1 : Int32) = (0 : Int32)))).2) (by decide) (by decide) ?_
 refine Run.x_iloadN (q := 29) X1 hx (hb hby d8_28) rfl rfl ?_
 refine Run.x_iconst (q := 30) X1 hx (hb hby d8_29) (z := (1 : Int32)) rfl rfl ?_
 refine Run.x_ishl (q := 31) X1 hx (hb hby d8_30) rfl rfl ?_
 refine Run.x_istoreN (q := 32) X1 hx #[.val (.ref arr), .val (.int (i <<< ((1 : Int32) &&& 31))), .val (.int ch)] (hb hby d8_31) rfl rfl ?_
 refine Run.x_aloadN (q := 33) X1 hx (hb hby d8_32) rfl rfl rfl ?_
 refine Run.x_iloadN (q := 34) X1 hx (hb hby d8_33) rfl rfl ?_
 refine Run.x_iinc (q := 37) X1 hx #[.val (.ref arr), .val (.int ((i <<< ((1 : Int32) &&& 31)) + (1 : Int32))), .val (.int ch)] (hb hby d8_34) rfl (z := ((i <<< ((1 : Int32) &&& 31)) + (1 : Int32))) rfl rfl rfl ?_
 refine Run.x_iloadN (q := 38) X1 hx (hb hby d8_37) rfl rfl ?_
 obtain ⟨T2, X2, e2, st2⟩ := getS2 X1 hx hZ hown (host := "") (Or.inl (wm99 hw)) Via.refl e1 S_HI_BYTE_SHIFT (g := (mkF m 38 #[.val (.ref arr), .val (.int ((i <<< ((1 : Int32) &&& 31)) + (1 : Int32))), .val (.int ch)] [(.int ch), (.int (i <<< ((1 : Int32) &&& 31))), (.ref arr)])) rfl (hb hby d8_38)
 refine Run.st st2 ?_
 show Run p e below s _ _ _ (T2.setTop (mkF m 41 #[.val (.ref arr), .val (.int ((i <<< ((1 : Int32) &&& 31)) + (1 : Int32))), .val (.int ch)] [(.int 0), (.int ch), (.int (i <<< ((1 : Int32) &&& 31))), (.ref arr)]))
 refine Run.x_ishr (q := 42) X2 hx (hb hby d8_41) rfl rfl ?_
 refine Run.x_i2b (q := 43) X2 hx (hb hby d8_42) rfl rfl ?_
 refine Run.y_stB (q := 44) X2 hx hZ e2 A_arr (i := jj) hj0 (by first | exact hl | (rw [List.length_set]; exact hl) | (simp only [List.length_set]; omega) | omega) (z' := (ch >>> ((0 : Int32) &&& 31)).toInt8.toInt32) (nar_b _) (hb hby d8_43) rfl fun T3 h3 X3 e3 W3 A3 => ?_
 replace A_arr : Ars Z h3 arr .byte (vs.set jj (Value.int (ch >>> ((0 : Int32) &&& 31)).toInt8.toInt32)) := A3
 replace KP := KP.wr W3 (Or.inl (by simp))
 have N3 := Fr.snoc X3 N0 g_arr
 have Z3 : n0 ≤ h3.size := Nat.le_trans Z0 (Nat.le_of_eq W3.size.symm)
 refine Run.x_aloadN (q := 45) X3 hx (hb hby d8_44) rfl rfl rfl ?_
 refine Run.x_iloadN (q := 46) X3 hx (hb hby d8_45) rfl rfl ?_
 refine Run.x_iloadN (q := 47) X3 hx (hb hby d8_46) rfl rfl ?_
 replace S_LO_BYTE_SHIFT := S_LO_BYTE_SHIFT.wr W3
 obtain ⟨T4, X4, e4, st4⟩ := getS2 X3 hx hZ hown (host := "") (Or.inl (wm100 hw)) Via.refl e3 S_LO_BYTE_SHIFT (g := (mkF m 47 #[.val (.ref arr), .val (.int ((i <<< ((1 : Int32) &&& 31)) + (1 : Int32))), .val (.int ch)] [(.int ch), (.int ((i <<< ((1 : Int32) &&& 31)) + (1 : Int32))), (.ref arr)])) rfl (hb hby d8_47)
 refine Run.st st4 ?_
 show Run p e below s _ _ _ (T4.setTop (mkF m 50 #[.val (.ref arr), .val (.int ((i <<< ((1 : Int32) &&& 31)) + (1 : Int32))), .val (.int ch)] [(.int 8), (.int ch), (.int ((i <<< ((1 : Int32) &&& 31)) + (1 : Int32))), (.ref arr)]))
 refine Run.x_ishr (q := 51) X4 hx (hb hby d8_50) rfl rfl ?_
 refine Run.x_i2b (q := 52) X4 hx (hb hby d8_51) rfl rfl ?_
 refine Run.y_stB (q := 53) X4 hx hZ e4 A_arr (i := (jj + 1)) hj1 (by first | exact hl | (rw [List.length_set]; exact hl) | (simp only [List.length_set]; omega) | omega) (z' := (ch >>> ((8 : Int32) &&& 31)).toInt8.toInt32) (nar_b _) (hb hby d8_52) rfl fun T5 h5 X5 e5 W5 A5 => ?_
 replace A_arr : Ars Z h5 arr .byte ((vs.set jj (Value.int (ch >>> ((0 : Int32) &&& 31)).toInt8.toInt32)).set (jj + 1) (Value.int (ch >>> ((8 : Int32) &&& 31)).toInt8.toInt32)) := A5
 replace KP := KP.wr W5 (Or.inl (by simp))
 have N5 := Fr.snoc X5 N3 g_arr
 have Z5 : n0 ≤ h5.size := Nat.le_trans Z3 (Nat.le_of_eq W5.size.symm)
 replace S__assertionsDisabled := (S__assertionsDisabled.wr W3).wr W5
 replace S_HI_BYTE_SHIFT := (S_HI_BYTE_SHIFT.wr W3).wr W5
 replace S_LO_BYTE_SHIFT := S_LO_BYTE_SHIFT.wr W5
 refine Run.retV X5 hx hlk e5 hret (hb hby d8_53) (by decide) (by decide) ?_
 exact ⟨rfl, N5, KP, A_arr⟩
theorem d9_0 : decode jdk_52_method_3_code 0 = .ok (.iload_n 0, 1) := by decide +kernel
theorem d9_1 : decode jdk_52_method_3_code 1 = .ok (.ifCond .ge 11, 3) := by decide +kernel
theorem d9_4 : decode jdk_52_method_3_code 4 = .ok (.new 17, 3) := by decide +kernel
theorem d9_7 : decode jdk_52_method_3_code 7 = .ok (.dup, 1) := by decide +kernel
theorem d9_8 : decode jdk_52_method_3_code 8 = .ok (.invokespecial 19, 3) := by decide +kernel
theorem d9_11 : decode jdk_52_method_3_code 11 = .ok (.athrow, 1) := by decide +kernel
theorem d9_12 : decode jdk_52_method_3_code 12 = .ok (.iload_n 0, 1) := by decide +kernel
theorem d9_13 : decode jdk_52_method_3_code 13 = .ok (.ldc 20, 2) := by decide +kernel
theorem d9_15 : decode jdk_52_method_3_code 15 = .ok (.if_icmp .lt 40, 3) := by decide +kernel
theorem d9_18 : decode jdk_52_method_3_code 18 = .ok (.new 21, 3) := by decide +kernel
theorem d9_21 : decode jdk_52_method_3_code 21 = .ok (.dup, 1) := by decide +kernel
theorem d9_22 : decode jdk_52_method_3_code 22 = .ok (.new 23, 3) := by decide +kernel
theorem d9_25 : decode jdk_52_method_3_code 25 = .ok (.dup, 1) := by decide +kernel
theorem d9_26 : decode jdk_52_method_3_code 26 = .ok (.invokespecial 25, 3) := by decide +kernel
theorem d9_29 : decode jdk_52_method_3_code 29 = .ok (.ldc 26, 2) := by decide +kernel
theorem d9_31 : decode jdk_52_method_3_code 31 = .ok (.invokevirtual 28, 3) := by decide +kernel
theorem d9_34 : decode jdk_52_method_3_code 34 = .ok (.iload_n 0, 1) := by decide +kernel
theorem d9_35 : decode jdk_52_method_3_code 35 = .ok (.invokevirtual 32, 3) := by decide +kernel
theorem d9_38 : decode jdk_52_method_3_code 38 = .ok (.ldc 35, 2) := by decide +kernel
theorem d9_40 : decode jdk_52_method_3_code 40 = .ok (.invokevirtual 28, 3) := by decide +kernel
theorem d9_43 : decode jdk_52_method_3_code 43 = .ok (.ldc 20, 2) := by decide +kernel
theorem d9_45 : decode jdk_52_method_3_code 45 = .ok (.invokevirtual 32, 3) := by decide +kernel
theorem d9_48 : decode jdk_52_method_3_code 48 = .ok (.invokevirtual 37, 3) := by decide +kernel
theorem d9_51 : decode jdk_52_method_3_code 51 = .ok (.invokespecial 41, 3) := by decide +kernel
theorem d9_54 : decode jdk_52_method_3_code 54 = .ok (.athrow, 1) := by decide +kernel
theorem d9_55 : decode jdk_52_method_3_code 55 = .ok (.iload_n 0, 1) := by decide +kernel
theorem d9_56 : decode jdk_52_method_3_code 56 = .ok (.iconst 1, 1) := by decide +kernel
theorem d9_57 : decode jdk_52_method_3_code 57 = .ok (.ishl, 1) := by decide +kernel
theorem d9_58 : decode jdk_52_method_3_code 58 = .ok (.ireturn, 1) := by decide +kernel
theorem ef_c_nbl (m : MethodId) (n : Int32) : entryFrame m #[(.int n)] 1 = mkF m 0 #[.val (.int n)] [] := by first | (simp [entryFrame, mkF, argsToLocals, Value.category]; done) | rfl
theorem wm94 {a0 : Array Value} {Z : State} (hw : ∀ d ∈ tables_1, d.before a0 Z = true) : (Jvm.Cond.constant "java/lang/StringUTF16" (20 : Nat) (1073741823 : Int32)).before a0 Z = true := hw _ (List.mem_of_getElem? (i := 94) rfl)
set_option maxRecDepth 65536 in
set_option maxHeartbeats 40000000 in
theorem c_nbl (l : Launch) (Z : State) (a0 : Array Value) (hw : ∀ d ∈ tables_1, d.before a0 Z = true) (n : Int32) (h0 : Heap) (n0 : Nat) (Z0 : n0 ≤ h0.size) (z : Int32) (h1 : ¬ n < (0 : Int32)) (h2 : n < (1073741823 : Int32)) (hz : n <<< ((1 : Int32) &&& 31) = z) :
  Ctr l Z (⟨"java/lang/StringUTF16", "newBytesLength", "(I)I"⟩ : MethodName) jdk_52_method_3_code 1 (some .int) ({ frames := 0, cells := 0, slots := 0, locals := 0 } : Room) #[(.int n)] h0 (PureI h0 n0 z) := by
 refine Ctr.of (plainFor_of_name pn_3) (fun m => ef_c_nbl m n) ?_
 intro p e s m below meth c T0 hx hby hml hown hnm hret hlk hZ e0 X0
 have N0 := Fr.nil n0
 replace hown : s.vm.findClass "java/lang/StringUTF16" = some m.cls := hown
 replace hml : c.maxLocals = 1 := hml
 refine Run.x_iloadN (q := 1) X0 hx (hb hby d9_0) rfl rfl ?_
 refine Run.x_ifYes (q := 12) X0 hx (hb hby d9_1) ((if0 _ _).trans (flt h1).2.1) (by decide) (by decide) ?_
 refine Run.x_iloadN (q := 13) X0 hx (hb hby d9_12) rfl rfl ?_
 refine Run.st (B := T0.setTop (mkF m 15 #[.val (.int n)] [(.int 1073741823), (.int n)])) (fun t kt => X0.ldcInt hx hown (mvT hZ (wm94 hw)) (g := (mkF m 13 #[.val (.int n)] [(.int n)])) rfl (hb hby d9_13) _ kt) ?_
 refine Run.x_icmpYes (q := 55) X0 hx (hb hby d9_15) (tlt h2).1 (by decide) (by decide) ?_
 refine Run.x_iloadN (q := 56) X0 hx (hb hby d9_55) rfl rfl ?_
 refine Run.x_iconst (q := 57) X0 hx (hb hby d9_56) (z := (1 : Int32)) rfl rfl ?_
 refine Run.x_ishl (q := 58) X0 hx (hb hby d9_57) rfl rfl ?_
 refine Run.retI X0 hx hlk e0 hret (hb hby d9_58) (by decide) (by decide) ?_
 exact PureI.mk (by exact hz) N0
theorem d10_0 : decode jdk_52_method_2_code 0 = .ok (.iload_n 0, 1) := by decide +kernel
theorem d10_1 : decode jdk_52_method_2_code 1 = .ok (.invokestatic 11, 3) := by decide +kernel
theorem d10_4 : decode jdk_52_method_2_code 4 = .ok (.newarray .byte, 2) := by decide +kernel
theorem d10_6 : decode jdk_52_method_2_code 6 = .ok (.areturn, 1) := by decide +kernel
theorem ef_c_nbf1 (m : MethodId)  : entryFrame m #[(.int 1)] 1 = mkF m 0 #[.val (.int 1)] [] := by first | (simp [entryFrame, mkF, argsToLocals, Value.category]; done) | rfl
theorem wm91 {a0 : Array Value} {Z : State} (hw : ∀ d ∈ tables_1, d.before a0 Z = true) : (Jvm.Cond.methodLink "java/lang/StringUTF16" (11 : Nat) ({ cls := "java/lang/StringUTF16", name := "newBytesLength", desc := "(I)I" } : Jvm.MethodName)).before a0 Z = true := hw _ (List.mem_of_getElem? (i := 91) rfl)
theorem wm93 {a0 : Array Value} {Z : State} (hw : ∀ d ∈ tables_1, d.before a0 Z = true) : (Jvm.Cond.code ({ cls := "java/lang/StringUTF16", name := "newBytesLength", desc := "(I)I" } : Jvm.MethodName) jdk_52_method_3_code (1 : Nat) (Option.some Jvm.ClassFile.FieldType.int)).before a0 Z = true := hw _ (List.mem_of_getElem? (i := 93) rfl)
theorem pd_5 : parseMethodDescriptor "(I)I" = some ⟨[.int], some .int⟩ := by decide +kernel
theorem wm92 {a0 : Array Value} {Z : State} (hw : ∀ d ∈ tables_1, d.before a0 Z = true) : (Jvm.Cond.static ({ cls := "java/lang/StringUTF16", name := "newBytesLength", desc := "(I)I" } : Jvm.MethodName)).before a0 Z = true := hw _ (List.mem_of_getElem? (i := 92) rfl)
theorem wm24 {a0 : Array Value} {Z : State} (hw : ∀ d ∈ tables_1, d.before a0 Z = true) : (Jvm.Cond.arrayClass Jvm.ClassFile.FieldType.byte).before a0 Z = true := hw _ (List.mem_of_getElem? (i := 24) rfl)
set_option maxRecDepth 65536 in
set_option maxHeartbeats 40000000 in
theorem c_nbf1 (l : Launch) (Z : State) (a0 : Array Value) (hw : ∀ d ∈ tables_1, d.before a0 Z = true)  (h0 : Heap) (n0 : Nat) (Z0 : n0 ≤ h0.size)  :
  Ctr l Z (⟨"java/lang/StringUTF16", "newBytesFor", "(I)[B"⟩ : MethodName) jdk_52_method_2_code 1 (some (.array .byte)) ({ frames := 1, cells := 1, slots := 2, locals := 12 } : Room) #[(.int 1)] h0 (fun v h L => ∃ b : Addr, v = some (.ref b) ∧ Fr n0 L ∧ Keep h0 h [] ∧ h0.size ≤ b ∧ Ars Z h b .byte [(.int 0), (.int 0)]) := by
 refine Ctr.of (plainFor_of_name pn_3) (fun m => ef_c_nbf1 m ) ?_
 intro p e s m below meth c T0 hx hby hml hown hnm hret hlk hZ e0 X0
 have N0 := Fr.nil n0
 replace hown : s.vm.findClass "java/lang/StringUTF16" = some m.cls := hown
 replace hml : c.maxLocals = 1 := hml
 have KP := Keep.refl h0 []
 refine Run.x_iloadN (q := 1) X0 hx (hb hby d10_0) rfl rfl ?_
 refine Run.callSI (q := 4) X0 hx hZ e0 (y := (⟨"java/lang/StringUTF16", "newBytesLength", "(I)I"⟩ : MethodName)) hown (wm91 hw) (wm92 hw) (wm22 hw) (wm93 hw) (by decide) (argsL := [(.int 1)]) (rest := []) (c_nbl l Z a0 hw (1 : Int32) h0 n0 Z0 (2 : Int32) (by decide) (by decide +kernel) (by decide)) pd_5 rfl (by rw [hml]; rfl) (W := 0) rfl (by decide) (by decide) (by decide) (by decide) (hb hby d10_1) rfl rfl fun T1 L1 X1 M1 e1 => ?_
 have N1 := Fr.app N0 M1
 refine Run.newP (aty := .byte) X1 hx hZ e1 (wm24 hw) (hb hby d10_4) (len := 2) (by decide) (by decide) (cap := 2) (by decide) (by decide) (by decide) (by decide) ?_
 intro T2 h2 b2 gg2 X2 e2 E2 A_b2
 have g_b2 : n0 ≤ b2 := Nat.le_trans Z0 (Nat.le_of_eq gg2.symm)
 have sz_b2 : h0.size ≤ b2 := Nat.le_trans KP.1 (Nat.le_of_eq gg2.symm)
 have Z2 : n0 ≤ h2.size := Nat.le_trans Z0 E2.1
 replace KP := KP.ext E2
 replace A_b2 : Ars Z h2 b2 .byte [(.int 0), (.int 0)] := A_b2
 show Run p e below s _ _ _ (T2.setTop (mkF m 6 #[.val (.int 1)] [(.ref b2)]))
 refine Run.retA X2 hx hlk e2 (t := (.array .byte)) hret rfl rfl rfl (hb hby d10_6) (by decide) (by decide) ?_
 exact ⟨b2, rfl, N1, KP, sz_b2, A_b2⟩
theorem ef_c_nbf2 (m : MethodId)  : entryFrame m #[(.int 2)] 1 = mkF m 0 #[.val (.int 2)] [] := by first | (simp [entryFrame, mkF, argsToLocals, Value.category]; done) | rfl
set_option maxRecDepth 65536 in
set_option maxHeartbeats 40000000 in
theorem c_nbf2 (l : Launch) (Z : State) (a0 : Array Value) (hw : ∀ d ∈ tables_1, d.before a0 Z = true)  (h0 : Heap) (n0 : Nat) (Z0 : n0 ≤ h0.size)  :
  Ctr l Z (⟨"java/lang/StringUTF16", "newBytesFor", "(I)[B"⟩ : MethodName) jdk_52_method_2_code 1 (some (.array .byte)) ({ frames := 1, cells := 1, slots := 4, locals := 12 } : Room) #[(.int 2)] h0 (fun v h L => ∃ b : Addr, v = some (.ref b) ∧ Fr n0 L ∧ Keep h0 h [] ∧ h0.size ≤ b ∧ Ars Z h b .byte [(.int 0), (.int 0), (.int 0), (.int 0)]) := by
 refine Ctr.of (plainFor_of_name pn_3) (fun m => ef_c_nbf2 m ) ?_
 intro p e s m below meth c T0 hx hby hml hown hnm hret hlk hZ e0 X0
 have N0 := Fr.nil n0
 replace hown : s.vm.findClass "java/lang/StringUTF16" = some m.cls := hown
 replace hml : c.maxLocals = 1 := hml
 have KP := Keep.refl h0 []
 refine Run.x_iloadN (q := 1) X0 hx (hb hby d10_0) rfl rfl ?_
 refine Run.callSI (q := 4) X0 hx hZ e0 (y := (⟨"java/lang/StringUTF16", "newBytesLength", "(I)I"⟩ : MethodName)) hown (wm91 hw) (wm92 hw) (wm22 hw) (wm93 hw) (by decide) (argsL := [(.int 2)]) (rest := []) (c_nbl l Z a0 hw (2 : Int32) h0 n0 Z0 (4 : Int32) (by decide) (by decide +kernel) (by decide)) pd_5 rfl (by rw [hml]; rfl) (W := 0) rfl (by decide) (by decide) (by decide) (by decide) (hb hby d10_1) rfl rfl fun T1 L1 X1 M1 e1 => ?_
 have N1 := Fr.app N0 M1
 refine Run.newP (aty := .byte) X1 hx hZ e1 (wm24 hw) (hb hby d10_4) (len := 4) (by decide) (by decide) (cap := 4) (by decide) (by decide) (by decide) (by decide) ?_
 intro T2 h2 b2 gg2 X2 e2 E2 A_b2
 have g_b2 : n0 ≤ b2 := Nat.le_trans Z0 (Nat.le_of_eq gg2.symm)
 have sz_b2 : h0.size ≤ b2 := Nat.le_trans KP.1 (Nat.le_of_eq gg2.symm)
 have Z2 : n0 ≤ h2.size := Nat.le_trans Z0 E2.1
 replace KP := KP.ext E2
 replace A_b2 : Ars Z h2 b2 .byte [(.int 0), (.int 0), (.int 0), (.int 0)] := A_b2
 show Run p e below s _ _ _ (T2.setTop (mkF m 6 #[.val (.int 2)] [(.ref b2)]))
 refine Run.retA X2 hx hlk e2 (t := (.array .byte)) hret rfl rfl rfl (hb hby d10_6) (by decide) (by decide) ?_
 exact ⟨b2, rfl, N1, KP, sz_b2, A_b2⟩
theorem ef_c_nbf3 (m : MethodId)  : entryFrame m #[(.int 3)] 1 = mkF m 0 #[.val (.int 3)] [] := by first | (simp [entryFrame, mkF, argsToLocals, Value.category]; done) | rfl
set_option maxRecDepth 65536 in
set_option maxHeartbeats 40000000 in
theorem c_nbf3 (l : Launch) (Z : State) (a0 : Array Value) (hw : ∀ d ∈ tables_1, d.before a0 Z = true)  (h0 : Heap) (n0 : Nat) (Z0 : n0 ≤ h0.size)  :
  Ctr l Z (⟨"java/lang/StringUTF16", "newBytesFor", "(I)[B"⟩ : MethodName) jdk_52_method_2_code 1 (some (.array .byte)) ({ frames := 1, cells := 1, slots := 6, locals := 12 } : Room) #[(.int 3)] h0 (fun v h L => ∃ b : Addr, v = some (.ref b) ∧ Fr n0 L ∧ Keep h0 h [] ∧ h0.size ≤ b ∧ Ars Z h b .byte [(.int 0), (.int 0), (.int 0), (.int 0), (.int 0), (.int 0)]) := by
 refine Ctr.of (plainFor_of_name pn_3) (fun m => ef_c_nbf3 m ) ?_
 intro p e s m below meth c T0 hx hby hml hown hnm hret hlk hZ e0 X0
 have N0 := Fr.nil n0
 replace hown : s.vm.findClass "java/lang/StringUTF16" = some m.cls := hown
 replace hml : c.maxLocals = 1 := hml
 have KP := Keep.refl h0 []
 refine Run.x_iloadN (q := 1) X0 hx (hb hby d10_0) rfl rfl ?_
 refine Run.callSI (q := 4) X0 hx hZ e0 (y := (⟨"java/lang/StringUTF16", "newBytesLength", "(I)I"⟩ : MethodName)) hown (wm91 hw) (wm92 hw) (wm22 hw) (wm93 hw) (by decide) (argsL := [(.int 3)]) (rest := []) (c_nbl l Z a0 hw (3 : Int32) h0 n0 Z0 (6 : Int32) (by decide) (by decide +kernel) (by decide)) pd_5 rfl (by rw [hml]; rfl) (W := 0) rfl (by decide) (by decide) (by decide) (by decide) (hb hby d10_1) rfl rfl fun T1 L1 X1 M1 e1 => ?_
 have N1 := Fr.app N0 M1
 refine Run.newP (aty := .byte) X1 hx hZ e1 (wm24 hw) (hb hby d10_4) (len := 6) (by decide) (by decide) (cap := 6) (by decide) (by decide) (by decide) (by decide) ?_
 intro T2 h2 b2 gg2 X2 e2 E2 A_b2
 have g_b2 : n0 ≤ b2 := Nat.le_trans Z0 (Nat.le_of_eq gg2.symm)
 have sz_b2 : h0.size ≤ b2 := Nat.le_trans KP.1 (Nat.le_of_eq gg2.symm)
 have Z2 : n0 ≤ h2.size := Nat.le_trans Z0 E2.1
 replace KP := KP.ext E2
 replace A_b2 : Ars Z h2 b2 .byte [(.int 0), (.int 0), (.int 0), (.int 0), (.int 0), (.int 0)] := A_b2
 show Run p e below s _ _ _ (T2.setTop (mkF m 6 #[.val (.int 3)] [(.ref b2)]))
 refine Run.retA X2 hx hlk e2 (t := (.array .byte)) hret rfl rfl rfl (hb hby d10_6) (by decide) (by decide) ?_
 exact ⟨b2, rfl, N1, KP, sz_b2, A_b2⟩
theorem d11_0 : decode jdk_52_method_14_code 0 = .ok (.iload_n 2, 1) := by decide +kernel
theorem d11_1 : decode jdk_52_method_14_code 1 = .ok (.invokestatic 107, 3) := by decide +kernel
theorem d11_4 : decode jdk_52_method_14_code 4 = .ok (.astore_n 3, 1) := by decide +kernel
theorem d11_5 : decode jdk_52_method_14_code 5 = .ok (.iconst 0, 1) := by decide +kernel
theorem d11_6 : decode jdk_52_method_14_code 6 = .ok (.istore 4, 2) := by decide +kernel
theorem d11_8 : decode jdk_52_method_14_code 8 = .ok (.iload 4, 2) := by decide +kernel
theorem d11_10 : decode jdk_52_method_14_code 10 = .ok (.iload_n 2, 1) := by decide +kernel
theorem d11_11 : decode jdk_52_method_14_code 11 = .ok (.if_icmp .ge 21, 3) := by decide +kernel
theorem d11_14 : decode jdk_52_method_14_code 14 = .ok (.aload_n 3, 1) := by decide +kernel
theorem d11_15 : decode jdk_52_method_14_code 15 = .ok (.iload 4, 2) := by decide +kernel
theorem d11_17 : decode jdk_52_method_14_code 17 = .ok (.aload_n 0, 1) := by decide +kernel
theorem d11_18 : decode jdk_52_method_14_code 18 = .ok (.iload_n 1, 1) := by decide +kernel
theorem d11_19 : decode jdk_52_method_14_code 19 = .ok (.caload, 1) := by decide +kernel
theorem d11_20 : decode jdk_52_method_14_code 20 = .ok (.invokestatic 111, 3) := by decide +kernel
theorem d11_23 : decode jdk_52_method_14_code 23 = .ok (.iinc 1 1, 3) := by decide +kernel
theorem d11_26 : decode jdk_52_method_14_code 26 = .ok (.iinc 4 1, 3) := by decide +kernel
theorem d11_29 : decode jdk_52_method_14_code 29 = .ok (.goto (-21), 3) := by decide +kernel
theorem d11_32 : decode jdk_52_method_14_code 32 = .ok (.aload_n 3, 1) := by decide +kernel
theorem d11_33 : decode jdk_52_method_14_code 33 = .ok (.areturn, 1) := by decide +kernel
theorem ef_c_tob1 (m : MethodId) (ca : Addr) : entryFrame m #[(.ref ca), (.int 0), (.int 1)] 5 = mkF m 0 #[.val (.ref ca), .val (.int 0), .val (.int 1), .unset, .unset] [] := by first | (simp [entryFrame, mkF, argsToLocals, Value.category]; done) | rfl
theorem wm88 {a0 : Array Value} {Z : State} (hw : ∀ d ∈ tables_1, d.before a0 Z = true) : (Jvm.Cond.methodLink "java/lang/StringUTF16" (107 : Nat) ({ cls := "java/lang/StringUTF16", name := "newBytesFor", desc := "(I)[B" } : Jvm.MethodName)).before a0 Z = true := hw _ (List.mem_of_getElem? (i := 88) rfl)
theorem wm90 {a0 : Array Value} {Z : State} (hw : ∀ d ∈ tables_1, d.before a0 Z = true) : (Jvm.Cond.code ({ cls := "java/lang/StringUTF16", name := "newBytesFor", desc := "(I)[B" } : Jvm.MethodName) jdk_52_method_2_code (1 : Nat) (Option.some (Jvm.ClassFile.FieldType.array Jvm.ClassFile.FieldType.byte))).before a0 Z = true := hw _ (List.mem_of_getElem? (i := 90) rfl)
theorem pd_6 : parseMethodDescriptor "(I)[B" = some ⟨[.int], some (.array .byte)⟩ := by decide +kernel
theorem wm89 {a0 : Array Value} {Z : State} (hw : ∀ d ∈ tables_1, d.before a0 Z = true) : (Jvm.Cond.static ({ cls := "java/lang/StringUTF16", name := "newBytesFor", desc := "(I)[B" } : Jvm.MethodName)).before a0 Z = true := hw _ (List.mem_of_getElem? (i := 89) rfl)
theorem wm95 {a0 : Array Value} {Z : State} (hw : ∀ d ∈ tables_1, d.before a0 Z = true) : (Jvm.Cond.methodLink "java/lang/StringUTF16" (111 : Nat) ({ cls := "java/lang/StringUTF16", name := "putChar", desc := "([BII)V" } : Jvm.MethodName)).before a0 Z = true := hw _ (List.mem_of_getElem? (i := 95) rfl)
theorem wm97 {a0 : Array Value} {Z : State} (hw : ∀ d ∈ tables_1, d.before a0 Z = true) : (Jvm.Cond.code ({ cls := "java/lang/StringUTF16", name := "putChar", desc := "([BII)V" } : Jvm.MethodName) jdk_52_method_4_code (3 : Nat) (Option.none : Option Jvm.ClassFile.FieldType)).before a0 Z = true := hw _ (List.mem_of_getElem? (i := 97) rfl)
theorem pd_7 : parseMethodDescriptor "([BII)V" = some ⟨[(.array .byte), .int, .int], none⟩ := by decide +kernel
theorem wm96 {a0 : Array Value} {Z : State} (hw : ∀ d ∈ tables_1, d.before a0 Z = true) : (Jvm.Cond.static ({ cls := "java/lang/StringUTF16", name := "putChar", desc := "([BII)V" } : Jvm.MethodName)).before a0 Z = true := hw _ (List.mem_of_getElem? (i := 96) rfl)
set_option maxRecDepth 65536 in
set_option maxHeartbeats 40000000 in
theorem c_tob1 (l : Launch) (Z : State) (a0 : Array Value) (hw : ∀ d ∈ tables_1, d.before a0 Z = true) (ca : Addr) (h0 : Heap) (n0 : Nat) (Z0 : n0 ≤ h0.size) (c0 : Int32) (A_ca : Ars Z h0 ca .char [(.int c0)]) (S__assertionsDisabled : Sta Z h0 "java/lang/StringUTF16" "$assertionsDisabled" "Z" (.int 1)) (S_HI_BYTE_SHIFT : Sta Z h0 "java/lang/StringUTF16" "HI_BYTE_SHIFT" "I" (.int 0)) (S_LO_BYTE_SHIFT : Sta Z h0 "java/lang/StringUTF16" "LO_BYTE_SHIFT" "I" (.int 8)) :
  Ctr l Z (⟨"java/lang/StringUTF16", "toBytes", "([CII)[B"⟩ : MethodName) jdk_52_method_14_code 5 (some (.array .byte)) ({ frames := 2, cells := 1, slots := 2, locals := 24 } : Room) #[(.ref ca), (.int 0), (.int 1)] h0 (fun v h L => ∃ b : Addr, v = some (.ref b) ∧ Fr n0 L ∧ Keep h0 h [] ∧ h0.size ≤ b ∧ Ars Z h b .byte [(.int (c0 >>> ((0 : Int32) &&& 31)).toInt8.toInt32), (.int (c0 >>> ((8 : Int32) &&& 31)).toInt8.toInt32)]) := by
 refine Ctr.of (plainFor_of_name pn_3) (fun m => ef_c_tob1 m ca) ?_
 intro p e s m below meth c T0 hx hby hml hown hnm hret hlk hZ e0 X0
 have N0 := Fr.nil n0
 replace hown : s.vm.findClass "java/lang/StringUTF16" = some m.cls := hown
 replace hml : c.maxLocals = 5 := hml
 have KP := Keep.refl h0 []
 refine Run.x_iloadN (q := 1) X0 hx (hb hby d11_0) rfl rfl ?_
 refine Run.callS X0 hx hZ e0 (y := (⟨"java/lang/StringUTF16", "newBytesFor", "(I)[B"⟩ : MethodName)) hown (wm88 hw) (wm89 hw) (wm22 hw) (wm90 hw) (by decide) (argsL := [(.int 1)]) (rest := []) (c_nbf1 l Z a0 hw  h0 n0 Z0 ) pd_6 rfl (by rw [hml]; rfl) (W := 0) rfl (by decide) (by decide) (by decide) (by decide) (hb hby d11_1) rfl ?_
 intro T1 v1 L1 X1 q1
 obtain ⟨np1, rfl, M1, K1, sz1, An1⟩ := q1
 have N1 := Fr.app N0 M1
 show Run p e below s _ _ _ (T1.setTop (mkF m 4 #[.val (.ref ca), .val (.int 0), .val (.int 1), .unset, .unset] [(.ref np1)]))
 have ne_ca_np1 : ca ≠ np1 := Nat.ne_of_lt (Nat.lt_of_lt_of_le A_ca.lt sz1)
 have g_np1 : n0 ≤ np1 := Nat.le_trans Z0 sz1
 have sz_np1 : h0.size ≤ np1 := Nat.le_trans KP.1 sz1
 replace S__assertionsDisabled := Sta_keep S__assertionsDisabled K1 all0
 replace S_HI_BYTE_SHIFT := Sta_keep S_HI_BYTE_SHIFT K1 all0
 replace S_LO_BYTE_SHIFT := Sta_keep S_LO_BYTE_SHIFT K1 all0
 have Z1 : n0 ≤ T1.heap.size := Nat.le_trans Z0 K1.1
 replace KP := KP.trans K1 all0
 refine Run.x_astoreN (q := 5) X1 hx #[.val (.ref ca), .val (.int 0), .val (.int 1), .val (.ref np1), .unset] (hb hby d11_4) rfl rfl rfl ?_
 refine Run.x_iconst (q := 6) X1 hx (hb hby d11_5) (z := (0 : Int32)) rfl rfl ?_
 refine Run.x_istore (q := 8) X1 hx #[.val (.ref ca), .val (.int 0), .val (.int 1), .val (.ref np1), .val (.int 0)] (hb hby d11_6) rfl rfl ?_
 refine Run.x_iload (q := 10) X1 hx (hb hby d11_8) rfl rfl ?_
 refine Run.x_iloadN (q := 11) X1 hx (hb hby d11_10) rfl rfl ?_
 refine Run.x_icmpNo (q := 14) X1 hx (hb hby d11_11) (tlt (by decide : (0 : Int32) < (1 : Int32))).2.1 rfl ?_
 refine Run.x_aloadN (q := 15) X1 hx (hb hby d11_14) rfl rfl rfl ?_
 refine Run.x_iload (q := 17) X1 hx (hb hby d11_15) rfl rfl ?_
 refine Run.x_aloadN (q := 18) X1 hx (hb hby d11_17) rfl rfl rfl ?_
 refine Run.x_iloadN (q := 19) X1 hx (hb hby d11_18) rfl rfl ?_
 replace A_ca := A_ca.keep K1 nin0
 refine Run.y_ldC (q := 20) X1 hx hZ rfl A_ca (i := 0) (v := (.int c0)) (by decide) rfl (hb hby d11_19) rfl ?_
 refine Run.callS X1 hx hZ rfl (y := (⟨"java/lang/StringUTF16", "putChar", "([BII)V"⟩ : MethodName)) hown (wm95 hw) (wm96 hw) (wm22 hw) (wm97 hw) (by decide) (argsL := [(.ref np1), (.int 0), (.int c0)]) (rest := []) (c_put l Z a0 hw np1 (0 : Int32) c0 T1.heap n0 Z1 [(.int 0), (.int 0)] 0 An1 S__assertionsDisabled S_HI_BYTE_SHIFT S_LO_BYTE_SHIFT g_np1 (by decide) (by decide) (Nat.le_of_ble_eq_true rfl)) pd_7 rfl (by rw [hml]; rfl) (W := 0) rfl (by decide) (by decide) (by decide) (by decide) (hb hby d11_20) rfl ?_
 intro T2 v2 L2 X2 q2
 obtain ⟨rfl, M2, K2, Ap2⟩ := q2
 have N2 := Fr.app N1 M2
 show Run p e below s _ _ _ (T2.setTop (mkF m 23 #[.val (.ref ca), .val (.int 0), .val (.int 1), .val (.ref np1), .val (.int 0)] []))
 replace S__assertionsDisabled := Sta_keep S__assertionsDisabled K2 (allS An1.ns all0)
 replace S_HI_BYTE_SHIFT := Sta_keep S_HI_BYTE_SHIFT K2 (allS An1.ns all0)
 replace S_LO_BYTE_SHIFT := Sta_keep S_LO_BYTE_SHIFT K2 (allS An1.ns all0)
 have Z2 : n0 ≤ T2.heap.size := Nat.le_trans Z1 K2.1
 replace KP := KP.trans K2 (allS (Or.inr sz_np1) all0)
 replace Ap2 : Ars Z T2.heap np1 .byte [(.int (c0 >>> ((0 : Int32) &&& 31)).toInt8.toInt32), (.int (c0 >>> ((8 : Int32) &&& 31)).toInt8.toInt32)] := Ap2
 refine Run.x_iinc (q := 26) X2 hx #[.val (.ref ca), .val (.int 1), .val (.int 1), .val (.ref np1), .val (.int 0)] (hb hby d11_23) rfl (z := (1 : Int32)) (by decide) rfl rfl ?_
 refine Run.x_iinc (q := 29) X2 hx #[.val (.ref ca), .val (.int 1), .val (.int 1), .val (.ref np1), .val (.int 1)] (hb hby d11_26) rfl (z := (1 : Int32)) (by decide) rfl rfl ?_
 refine Run.x_goto (q := 8) X2 hx (hb hby d11_29) (by decide) (by decide) ?_
 refine Run.x_iload (q := 10) X2 hx (hb hby d11_8) rfl rfl ?_
 refine Run.x_iloadN (q := 11) X2 hx (hb hby d11_10) rfl rfl ?_
 refine Run.x_icmpYes (q := 32) X2 hx (hb hby d11_11) (flt (by decide : ¬ ((1 : Int32) < (1 : Int32)))).2.1 (by decide) (by decide) ?_
 refine Run.x_aloadN (q := 33) X2 hx (hb hby d11_32) rfl rfl rfl ?_
 replace A_ca := A_ca.keep K2 (ninS ne_ca_np1 nin0)
 refine Run.retA X2 hx hlk rfl (t := (.array .byte)) hret rfl rfl rfl (hb hby d11_33) (by decide) (by decide) ?_
 exact ⟨np1, rfl, N2, KP, sz_np1, Ap2⟩
theorem ef_c_tob2 (m : MethodId) (ca : Addr) : entryFrame m #[(.ref ca), (.int 0), (.int 2)] 5 = mkF m 0 #[.val (.ref ca), .val (.int 0), .val (.int 2), .unset, .unset] [] := by first | (simp [entryFrame, mkF, argsToLocals, Value.category]; done) | rfl
set_option maxRecDepth 65536 in
set_option maxHeartbeats 40000000 in
theorem c_tob2 (l : Launch) (Z : State) (a0 : Array Value) (hw : ∀ d ∈ tables_1, d.before a0 Z = true) (ca : Addr) (h0 : Heap) (n0 : Nat) (Z0 : n0 ≤ h0.size) (c0 : Int32) (c1 : Int32) (A_ca : Ars Z h0 ca .char [(.int c0), (.int c1)]) (S__assertionsDisabled : Sta Z h0 "java/lang/StringUTF16" "$assertionsDisabled" "Z" (.int 1)) (S_HI_BYTE_SHIFT : Sta Z h0 "java/lang/StringUTF16" "HI_BYTE_SHIFT" "I" (.int 0)) (S_LO_BYTE_SHIFT : Sta Z h0 "java/lang/StringUTF16" "LO_BYTE_SHIFT" "I" (.int 8)) :
  Ctr l Z (⟨"java/lang/StringUTF16", "toBytes", "([CII)[B"⟩ : MethodName) jdk_52_method_14_code 5 (some (.array .byte)) ({ frames := 2, cells := 1, slots := 4, locals := 24 } : Room) #[(.ref ca), (.int 0), (.int 2)] h0 (fun v h L => ∃ b : Addr, v = some (.ref b) ∧ Fr n0 L ∧ Keep h0 h [] ∧ h0.size ≤ b ∧ Ars Z h b .byte [(.int (c0 >>> ((0 : Int32) &&& 31)).toInt8.toInt32), (.int (c0 >>> ((8 : Int32) &&& 31)).toInt8.toInt32), (.int (c1 >>> ((0 : Int32) &&& 31)).toInt8.toInt32), (.int (c1 >>> ((8 : Int32) &&& 31)).toInt8.toInt32)]) := by
 refine Ctr.of (plainFor_of_name pn_3) (fun m => ef_c_tob2 m ca) ?_
 intro p e s m below meth c T0 hx hby hml hown hnm hret hlk hZ e0 X0
 have N0 := Fr.nil n0
 replace hown : s.vm.findClass "java/lang/StringUTF16" = some m.cls := hown
 replace hml : c.maxLocals = 5 := hml
 have KP := Keep.refl h0 []
 refine Run.x_iloadN (q := 1) X0 hx (hb hby d11_0) rfl rfl ?_
 refine Run.callS X0 hx hZ e0 (y := (⟨"java/lang/StringUTF16", "newBytesFor", "(I)[B"⟩ : MethodName)) hown (wm88 hw) (wm89 hw) (wm22 hw) (wm90 hw) (by decide) (argsL := [(.int 2)]) (rest := []) (c_nbf2 l Z a0 hw  h0 n0 Z0 ) pd_6 rfl (by rw [hml]; rfl) (W := 0) rfl (by decide) (by decide) (by decide) (by decide) (hb hby d11_1) rfl ?_
 intro T1 v1 L1 X1 q1
 obtain ⟨np1, rfl, M1, K1, sz1, An1⟩ := q1
 have N1 := Fr.app N0 M1
 show Run p e below s _ _ _ (T1.setTop (mkF m 4 #[.val (.ref ca), .val (.int 0), .val (.int 2), .unset, .unset] [(.ref np1)]))
 have ne_ca_np1 : ca ≠ np1 := Nat.ne_of_lt (Nat.lt_of_lt_of_le A_ca.lt sz1)
 have g_np1 : n0 ≤ np1 := Nat.le_trans Z0 sz1
 have sz_np1 : h0.size ≤ np1 := Nat.le_trans KP.1 sz1
 replace S__assertionsDisabled := Sta_keep S__assertionsDisabled K1 all0
 replace S_HI_BYTE_SHIFT := Sta_keep S_HI_BYTE_SHIFT K1 all0
 replace S_LO_BYTE_SHIFT := Sta_keep S_LO_BYTE_SHIFT K1 all0
 have Z1 : n0 ≤ T1.heap.size := Nat.le_trans Z0 K1.1
 replace KP := KP.trans K1 all0
 refine Run.x_astoreN (q := 5) X1 hx #[.val (.ref ca), .val (.int 0), .val (.int 2), .val (.ref np1), .unset] (hb hby d11_4) rfl rfl rfl ?_
 refine Run.x_iconst (q := 6) X1 hx (hb hby d11_5) (z := (0 : Int32)) rfl rfl ?_
 refine Run.x_istore (q := 8) X1 hx #[.val (.ref ca), .val (.int 0), .val (.int 2), .val (.ref np1), .val (.int 0)] (hb hby d11_6) rfl rfl ?_
 refine Run.x_iload (q := 10) X1 hx (hb hby d11_8) rfl rfl ?_
 refine Run.x_iloadN (q := 11) X1 hx (hb hby d11_10) rfl rfl ?_
 refine Run.x_icmpNo (q := 14) X1 hx (hb hby d11_11) (tlt (by decide : (0 : Int32) < (2 : Int32))).2.1 rfl ?_
 refine Run.x_aloadN (q := 15) X1 hx (hb hby d11_14) rfl rfl rfl ?_
 refine Run.x_iload (q := 17) X1 hx (hb hby d11_15) rfl rfl ?_
 refine Run.x_aloadN (q := 18) X1 hx (hb hby d11_17) rfl rfl rfl ?_
 refine Run.x_iloadN (q := 19) X1 hx (hb hby d11_18) rfl rfl ?_
 replace A_ca := A_ca.keep K1 nin0
 refine Run.y_ldC (q := 20) X1 hx hZ rfl A_ca (i := 0) (v := (.int c0)) (by decide) rfl (hb hby d11_19) rfl ?_
 refine Run.callS X1 hx hZ rfl (y := (⟨"java/lang/StringUTF16", "putChar", "([BII)V"⟩ : MethodName)) hown (wm95 hw) (wm96 hw) (wm22 hw) (wm97 hw) (by decide) (argsL := [(.ref np1), (.int 0), (.int c0)]) (rest := []) (c_put l Z a0 hw np1 (0 : Int32) c0 T1.heap n0 Z1 [(.int 0), (.int 0), (.int 0), (.int 0)] 0 An1 S__assertionsDisabled S_HI_BYTE_SHIFT S_LO_BYTE_SHIFT g_np1 (by decide) (by decide) (Nat.le_of_ble_eq_true rfl)) pd_7 rfl (by rw [hml]; rfl) (W := 0) rfl (by decide) (by decide) (by decide) (by decide) (hb hby d11_20) rfl ?_
 intro T2 v2 L2 X2 q2
 obtain ⟨rfl, M2, K2, Ap2⟩ := q2
 have N2 := Fr.app N1 M2
 show Run p e below s _ _ _ (T2.setTop (mkF m 23 #[.val (.ref ca), .val (.int 0), .val (.int 2), .val (.ref np1), .val (.int 0)] []))
 replace S__assertionsDisabled := Sta_keep S__assertionsDisabled K2 (allS An1.ns all0)
 replace S_HI_BYTE_SHIFT := Sta_keep S_HI_BYTE_SHIFT K2 (allS An1.ns all0)
 replace S_LO_BYTE_SHIFT := Sta_keep S_LO_BYTE_SHIFT K2 (allS An1.ns all0)
 have Z2 : n0 ≤ T2.heap.size := Nat.le_trans Z1 K2.1
 replace KP := KP.trans K2 (allS (Or.inr sz_np1) all0)
 replace Ap2 : Ars Z T2.heap np1 .byte [(.int (c0 >>> ((0 : Int32) &&& 31)).toInt8.toInt32), (.int (c0 >>> ((8 : Int32) &&& 31)).toInt8.toInt32), (.int 0), (.int 0)] := Ap2
 refine Run.x_iinc (q := 26) X2 hx #[.val (.ref ca), .val (.int 1), .val (.int 2), .val (.ref np1), .val (.int 0)] (hb hby d11_23) rfl (z := (1 : Int32)) (by decide) rfl rfl ?_
 refine Run.x_iinc (q := 29) X2 hx #[.val (.ref ca), .val (.int 1), .val (.int 2), .val (.ref np1), .val (.int 1)] (hb hby d11_26) rfl (z := (1 : Int32)) (by decide) rfl rfl ?_
 refine Run.x_goto (q := 8) X2 hx (hb hby d11_29) (by decide) (by decide) ?_
 refine Run.x_iload (q := 10) X2 hx (hb hby d11_8) rfl rfl ?_
 refine Run.x_iloadN (q := 11) X2 hx (hb hby d11_10) rfl rfl ?_
 refine Run.x_icmpNo (q := 14) X2 hx (hb hby d11_11) (tlt (by decide : (1 : Int32) < (2 : Int32))).2.1 rfl ?_
 refine Run.x_aloadN (q := 15) X2 hx (hb hby d11_14) rfl rfl rfl ?_
 refine Run.x_iload (q := 17) X2 hx (hb hby d11_15) rfl rfl ?_
 refine Run.x_aloadN (q := 18) X2 hx (hb hby d11_17) rfl rfl rfl ?_
 refine Run.x_iloadN (q := 19) X2 hx (hb hby d11_18) rfl rfl ?_
 replace A_ca := A_ca.keep K2 (ninS ne_ca_np1 nin0)
 refine Run.y_ldC (q := 20) X2 hx hZ rfl A_ca (i := 1) (v := (.int c1)) (by decide) rfl (hb hby d11_19) rfl ?_
 refine Run.callS X2 hx hZ rfl (y := (⟨"java/lang/StringUTF16", "putChar", "([BII)V"⟩ : MethodName)) hown (wm95 hw) (wm96 hw) (wm22 hw) (wm97 hw) (by decide) (argsL := [(.ref np1), (.int 1), (.int c1)]) (rest := []) (c_put l Z a0 hw np1 (1 : Int32) c1 T2.heap n0 Z2 [(.int (c0 >>> ((0 : Int32) &&& 31)).toInt8.toInt32), (.int (c0 >>> ((8 : Int32) &&& 31)).toInt8.toInt32), (.int 0), (.int 0)] 2 Ap2 S__assertionsDisabled S_HI_BYTE_SHIFT S_LO_BYTE_SHIFT g_np1 (by decide) (by decide) (Nat.le_of_ble_eq_true rfl)) pd_7 rfl (by rw [hml]; rfl) (W := 0) rfl (by decide) (by decide) (by decide) (by decide) (hb hby d11_20) rfl ?_
 intro T3 v3 L3 X3 q3
 obtain ⟨rfl, M3, K3, Ap3⟩ := q3
 have N3 := Fr.app N2 M3
 show Run p e below s _ _ _ (T3.setTop (mkF m 23 #[.val (.ref ca), .val (.int 1), .val (.int 2), .val (.ref np1), .val (.int 1)] []))
 replace S__assertionsDisabled := Sta_keep S__assertionsDisabled K3 (allS Ap2.ns all0)
 replace S_HI_BYTE_SHIFT := Sta_keep S_HI_BYTE_SHIFT K3 (allS Ap2.ns all0)
 replace S_LO_BYTE_SHIFT := Sta_keep S_LO_BYTE_SHIFT K3 (allS Ap2.ns all0)
 have Z3 : n0 ≤ T3.heap.size := Nat.le_trans Z2 K3.1
 replace KP := KP.trans K3 (allS (Or.inr sz_np1) all0)
 replace Ap3 : Ars Z T3.heap np1 .byte [(.int (c0 >>> ((0 : Int32) &&& 31)).toInt8.toInt32), (.int (c0 >>> ((8 : Int32) &&& 31)).toInt8.toInt32), (.int (c1 >>> ((0 : Int32) &&& 31)).toInt8.toInt32), (.int (c1 >>> ((8 : Int32) &&& 31)).toInt8.toInt32)] := Ap3
 refine Run.x_iinc (q := 26) X3 hx #[.val (.ref ca), .val (.int 2), .val (.int 2), .val (.ref np1), .val (.int 1)] (hb hby d11_23) rfl (z := (2 : Int32)) (by decide) rfl rfl ?_
 refine Run.x_iinc (q := 29) X3 hx #[.val (.ref ca), .val (.int 2), .val (.int 2), .val (.ref np1), .val (.int 2)] (hb hby d11_26) rfl (z := (2 : Int32)) (by decide) rfl rfl ?_
 refine Run.x_goto (q := 8) X3 hx (hb hby d11_29) (by decide) (by decide) ?_
 refine Run.x_iload (q := 10) X3 hx (hb hby d11_8) rfl rfl ?_
 refine Run.x_iloadN (q := 11) X3 hx (hb hby d11_10) rfl rfl ?_
 refine Run.x_icmpYes (q := 32) X3 hx (hb hby d11_11) (flt (by decide : ¬ ((2 : Int32) < (2 : Int32)))).2.1 (by decide) (by decide) ?_
 refine Run.x_aloadN (q := 33) X3 hx (hb hby d11_32) rfl rfl rfl ?_
 replace A_ca := A_ca.keep K3 (ninS ne_ca_np1 nin0)
 refine Run.retA X3 hx hlk rfl (t := (.array .byte)) hret rfl rfl rfl (hb hby d11_33) (by decide) (by decide) ?_
 exact ⟨np1, rfl, N3, KP, sz_np1, Ap3⟩
theorem ef_c_tob3 (m : MethodId) (ca : Addr) : entryFrame m #[(.ref ca), (.int 0), (.int 3)] 5 = mkF m 0 #[.val (.ref ca), .val (.int 0), .val (.int 3), .unset, .unset] [] := by first | (simp [entryFrame, mkF, argsToLocals, Value.category]; done) | rfl
set_option maxRecDepth 65536 in
set_option maxHeartbeats 40000000 in
theorem c_tob3 (l : Launch) (Z : State) (a0 : Array Value) (hw : ∀ d ∈ tables_1, d.before a0 Z = true) (ca : Addr) (h0 : Heap) (n0 : Nat) (Z0 : n0 ≤ h0.size) (c0 : Int32) (c1 : Int32) (c2 : Int32) (A_ca : Ars Z h0 ca .char [(.int c0), (.int c1), (.int c2)]) (S__assertionsDisabled : Sta Z h0 "java/lang/StringUTF16" "$assertionsDisabled" "Z" (.int 1)) (S_HI_BYTE_SHIFT : Sta Z h0 "java/lang/StringUTF16" "HI_BYTE_SHIFT" "I" (.int 0)) (S_LO_BYTE_SHIFT : Sta Z h0 "java/lang/StringUTF16" "LO_BYTE_SHIFT" "I" (.int 8)) :
  Ctr l Z (⟨"java/lang/StringUTF16", "toBytes", "([CII)[B"⟩ : MethodName) jdk_52_method_14_code 5 (some (.array .byte)) ({ frames := 2, cells := 1, slots := 6, locals := 24 } : Room) #[(.ref ca), (.int 0), (.int 3)] h0 (fun v h L => ∃ b : Addr, v = some (.ref b) ∧ Fr n0 L ∧ Keep h0 h [] ∧ h0.size ≤ b ∧ Ars Z h b .byte [(.int (c0 >>> ((0 : Int32) &&& 31)).toInt8.toInt32), (.int (c0 >>> ((8 : Int32) &&& 31)).toInt8.toInt32), (.int (c1 >>> ((0 : Int32) &&& 31)).toInt8.toInt32), (.int (c1 >>> ((8 : Int32) &&& 31)).toInt8.toInt32), (.int (c2 >>> ((0 : Int32) &&& 31)).toInt8.toInt32), (.int (c2 >>> ((8 : Int32) &&& 31)).toInt8.toInt32)]) := by
 refine Ctr.of (plainFor_of_name pn_3) (fun m => ef_c_tob3 m ca) ?_
 intro p e s m below meth c T0 hx hby hml hown hnm hret hlk hZ e0 X0
 have N0 := Fr.nil n0
 replace hown : s.vm.findClass "java/lang/StringUTF16" = some m.cls := hown
 replace hml : c.maxLocals = 5 := hml
 have KP := Keep.refl h0 []
 refine Run.x_iloadN (q := 1) X0 hx (hb hby d11_0) rfl rfl ?_
 refine Run.callS X0 hx hZ e0 (y := (⟨"java/lang/StringUTF16", "newBytesFor", "(I)[B"⟩ : MethodName)) hown (wm88 hw) (wm89 hw) (wm22 hw) (wm90 hw) (by decide) (argsL := [(.int 3)]) (rest := []) (c_nbf3 l Z a0 hw  h0 n0 Z0 ) pd_6 rfl (by rw [hml]; rfl) (W := 0) rfl (by decide) (by decide) (by decide) (by decide) (hb hby d11_1) rfl ?_
 intro T1 v1 L1 X1 q1
 obtain ⟨np1, rfl, M1, K1, sz1, An1⟩ := q1
 have N1 := Fr.app N0 M1
 show Run p e below s _ _ _ (T1.setTop (mkF m 4 #[.val (.ref ca), .val (.int 0), .val (.int 3), .unset, .unset] [(.ref np1)]))
 have ne_ca_np1 : ca ≠ np1 := Nat.ne_of_lt (Nat.lt_of_lt_of_le A_ca.lt sz1)
 have g_np1 : n0 ≤ np1 := Nat.le_trans Z0 sz1
 have sz_np1 : h0.size ≤ np1 := Nat.le_trans KP.1 sz1
 replace S__assertionsDisabled := Sta_keep S__assertionsDisabled K1 all0
 replace S_HI_BYTE_SHIFT := Sta_keep S_HI_BYTE_SHIFT K1 all0
 replace S_LO_BYTE_SHIFT := Sta_keep S_LO_BYTE_SHIFT K1 all0
 have Z1 : n0 ≤ T1.heap.size := Nat.le_trans Z0 K1.1
 replace KP := KP.trans K1 all0
 refine Run.x_astoreN (q := 5) X1 hx #[.val (.ref ca), .val (.int 0), .val (.int 3), .val (.ref np1), .unset] (hb hby d11_4) rfl rfl rfl ?_
 refine Run.x_iconst (q := 6) X1 hx (hb hby d11_5) (z := (0 : Int32)) rfl rfl ?_
 refine Run.x_istore (q := 8) X1 hx #[.val (.ref ca), .val (.int 0), .val (.int 3), .val (.ref np1), .val (.int 0)] (hb hby d11_6) rfl rfl ?_
 refine Run.x_iload (q := 10) X1 hx (hb hby d11_8) rfl rfl ?_
 refine Run.x_iloadN (q := 11) X1 hx (hb hby d11_10) rfl rfl ?_
 refine Run.x_icmpNo (q := 14) X1 hx (hb hby d11_11) (tlt (by decide : (0 : Int32) < (3 : Int32))).2.1 rfl ?_
 refine Run.x_aloadN (q := 15) X1 hx (hb hby d11_14) rfl rfl rfl ?_
 refine Run.x_iload (q := 17) X1 hx (hb hby d11_15) rfl rfl ?_
 refine Run.x_aloadN (q := 18) X1 hx (hb hby d11_17) rfl rfl rfl ?_
 refine Run.x_iloadN (q := 19) X1 hx (hb hby d11_18) rfl rfl ?_
 replace A_ca := A_ca.keep K1 nin0
 refine Run.y_ldC (q := 20) X1 hx hZ rfl A_ca (i := 0) (v := (.int c0)) (by decide) rfl (hb hby d11_19) rfl ?_
 refine Run.callS X1 hx hZ rfl (y := (⟨"java/lang/StringUTF16", "putChar", "([BII)V"⟩ : MethodName)) hown (wm95 hw) (wm96 hw) (wm22 hw) (wm97 hw) (by decide) (argsL := [(.ref np1), (.int 0), (.int c0)]) (rest := []) (c_put l Z a0 hw np1 (0 : Int32) c0 T1.heap n0 Z1 [(.int 0), (.int 0), (.int 0), (.int 0), (.int 0), (.int 0)] 0 An1 S__assertionsDisabled S_HI_BYTE_SHIFT S_LO_BYTE_SHIFT g_np1 (by decide) (by decide) (Nat.le_of_ble_eq_true rfl)) pd_7 rfl (by rw [hml]; rfl) (W := 0) rfl (by decide) (by decide) (by decide) (by decide) (hb hby d11_20) rfl ?_
 intro T2 v2 L2 X2 q2
 obtain ⟨rfl, M2, K2, Ap2⟩ := q2
 have N2 := Fr.app N1 M2
 show Run p e below s _ _ _ (T2.setTop (mkF m 23 #[.val (.ref ca), .val (.int 0), .val (.int 3), .val (.ref np1), .val (.int 0)] []))
 replace S__assertionsDisabled := Sta_keep S__assertionsDisabled K2 (allS An1.ns all0)
 replace S_HI_BYTE_SHIFT := Sta_keep S_HI_BYTE_SHIFT K2 (allS An1.ns all0)
 replace S_LO_BYTE_SHIFT := Sta_keep S_LO_BYTE_SHIFT K2 (allS An1.ns all0)
 have Z2 : n0 ≤ T2.heap.size := Nat.le_trans Z1 K2.1
 replace KP := KP.trans K2 (allS (Or.inr sz_np1) all0)
 replace Ap2 : Ars Z T2.heap np1 .byte [(.int (c0 >>> ((0 : Int32) &&& 31)).toInt8.toInt32), (.int (c0 >>> ((8 : Int32) &&& 31)).toInt8.toInt32), (.int 0), (.int 0), (.int 0), (.int 0)] := Ap2
 refine Run.x_iinc (q := 26) X2 hx #[.val (.ref ca), .val (.int 1), .val (.int 3), .val (.ref np1), .val (.int 0)] (hb hby d11_23) rfl (z := (1 : Int32)) (by decide) rfl rfl ?_
 refine Run.x_iinc (q := 29) X2 hx #[.val (.ref ca), .val (.int 1), .val (.int 3), .val (.ref np1), .val (.int 1)] (hb hby d11_26) rfl (z := (1 : Int32)) (by decide) rfl rfl ?_
 refine Run.x_goto (q := 8) X2 hx (hb hby d11_29) (by decide) (by decide) ?_
 refine Run.x_iload (q := 10) X2 hx (hb hby d11_8) rfl rfl ?_
 refine Run.x_iloadN (q := 11) X2 hx (hb hby d11_10) rfl rfl ?_
 refine Run.x_icmpNo (q := 14) X2 hx (hb hby d11_11) (tlt (by decide : (1 : Int32) < (3 : Int32))).2.1 rfl ?_
 refine Run.x_aloadN (q := 15) X2 hx (hb hby d11_14) rfl rfl rfl ?_
 refine Run.x_iload (q := 17) X2 hx (hb hby d11_15) rfl rfl ?_
 refine Run.x_aloadN (q := 18) X2 hx (hb hby d11_17) rfl rfl rfl ?_
 refine Run.x_iloadN (q := 19) X2 hx (hb hby d11_18) rfl rfl ?_
 replace A_ca := A_ca.keep K2 (ninS ne_ca_np1 nin0)
 refine Run.y_ldC (q := 20) X2 hx hZ rfl A_ca (i := 1) (v := (.int c1)) (by decide) rfl (hb hby d11_19) rfl ?_
 refine Run.callS X2 hx hZ rfl (y := (⟨"java/lang/StringUTF16", "putChar", "([BII)V"⟩ : MethodName)) hown (wm95 hw) (wm96 hw) (wm22 hw) (wm97 hw) (by decide) (argsL := [(.ref np1), (.int 1), (.int c1)]) (rest := []) (c_put l Z a0 hw np1 (1 : Int32) c1 T2.heap n0 Z2 [(.int (c0 >>> ((0 : Int32) &&& 31)).toInt8.toInt32), (.int (c0 >>> ((8 : Int32) &&& 31)).toInt8.toInt32), (.int 0), (.int 0), (.int 0), (.int 0)] 2 Ap2 S__assertionsDisabled S_HI_BYTE_SHIFT S_LO_BYTE_SHIFT g_np1 (by decide) (by decide) (Nat.le_of_ble_eq_true rfl)) pd_7 rfl (by rw [hml]; rfl) (W := 0) rfl (by decide) (by decide) (by decide) (by decide) (hb hby d11_20) rfl ?_
 intro T3 v3 L3 X3 q3
 obtain ⟨rfl, M3, K3, Ap3⟩ := q3
 have N3 := Fr.app N2 M3
 show Run p e below s _ _ _ (T3.setTop (mkF m 23 #[.val (.ref ca), .val (.int 1), .val (.int 3), .val (.ref np1), .val (.int 1)] []))
 replace S__assertionsDisabled := Sta_keep S__assertionsDisabled K3 (allS Ap2.ns all0)
 replace S_HI_BYTE_SHIFT := Sta_keep S_HI_BYTE_SHIFT K3 (allS Ap2.ns all0)
 replace S_LO_BYTE_SHIFT := Sta_keep S_LO_BYTE_SHIFT K3 (allS Ap2.ns all0)
 have Z3 : n0 ≤ T3.heap.size := Nat.le_trans Z2 K3.1
 replace KP := KP.trans K3 (allS (Or.inr sz_np1) all0)
 replace Ap3 : Ars Z T3.heap np1 .byte [(.int (c0 >>> ((0 : Int32) &&& 31)).toInt8.toInt32), (.int (c0 >>> ((8 : Int32) &&& 31)).toInt8.toInt32), (.int (c1 >>> ((0 : Int32) &&& 31)).toInt8.toInt32), (.int (c1 >>> ((8 : Int32) &&& 31)).toInt8.toInt32), (.int 0), (.int 0)] := Ap3
 refine Run.x_iinc (q := 26) X3 hx #[.val (.ref ca), .val (.int 2), .val (.int 3), .val (.ref np1), .val (.int 1)] (hb hby d11_23) rfl (z := (2 : Int32)) (by decide) rfl rfl ?_
 refine Run.x_iinc (q := 29) X3 hx #[.val (.ref ca), .val (.int 2), .val (.int 3), .val (.ref np1), .val (.int 2)] (hb hby d11_26) rfl (z := (2 : Int32)) (by decide) rfl rfl ?_
 refine Run.x_goto (q := 8) X3 hx (hb hby d11_29) (by decide) (by decide) ?_
 refine Run.x_iload (q := 10) X3 hx (hb hby d11_8) rfl rfl ?_
 refine Run.x_iloadN (q := 11) X3 hx (hb hby d11_10) rfl rfl ?_
 refine Run.x_icmpNo (q := 14) X3 hx (hb hby d11_11) (tlt (by decide : (2 : Int32) < (3 : Int32))).2.1 rfl ?_
 refine Run.x_aloadN (q := 15) X3 hx (hb hby d11_14) rfl rfl rfl ?_
 refine Run.x_iload (q := 17) X3 hx (hb hby d11_15) rfl rfl ?_
 refine Run.x_aloadN (q := 18) X3 hx (hb hby d11_17) rfl rfl rfl ?_
 refine Run.x_iloadN (q := 19) X3 hx (hb hby d11_18) rfl rfl ?_
 replace A_ca := A_ca.keep K3 (ninS ne_ca_np1 nin0)
 refine Run.y_ldC (q := 20) X3 hx hZ rfl A_ca (i := 2) (v := (.int c2)) (by decide) rfl (hb hby d11_19) rfl ?_
 refine Run.callS X3 hx hZ rfl (y := (⟨"java/lang/StringUTF16", "putChar", "([BII)V"⟩ : MethodName)) hown (wm95 hw) (wm96 hw) (wm22 hw) (wm97 hw) (by decide) (argsL := [(.ref np1), (.int 2), (.int c2)]) (rest := []) (c_put l Z a0 hw np1 (2 : Int32) c2 T3.heap n0 Z3 [(.int (c0 >>> ((0 : Int32) &&& 31)).toInt8.toInt32), (.int (c0 >>> ((8 : Int32) &&& 31)).toInt8.toInt32), (.int (c1 >>> ((0 : Int32) &&& 31)).toInt8.toInt32), (.int (c1 >>> ((8 : Int32) &&& 31)).toInt8.toInt32), (.int 0), (.int 0)] 4 Ap3 S__assertionsDisabled S_HI_BYTE_SHIFT S_LO_BYTE_SHIFT g_np1 (by decide) (by decide) (Nat.le_of_ble_eq_true rfl)) pd_7 rfl (by rw [hml]; rfl) (W := 0) rfl (by decide) (by decide) (by decide) (by decide) (hb hby d11_20) rfl ?_
 intro T4 v4 L4 X4 q4
 obtain ⟨rfl, M4, K4, Ap4⟩ := q4
 have N4 := Fr.app N3 M4
 show Run p e below s _ _ _ (T4.setTop (mkF m 23 #[.val (.ref ca), .val (.int 2), .val (.int 3), .val (.ref np1), .val (.int 2)] []))
 replace S__assertionsDisabled := Sta_keep S__assertionsDisabled K4 (allS Ap3.ns all0)
 replace S_HI_BYTE_SHIFT := Sta_keep S_HI_BYTE_SHIFT K4 (allS Ap3.ns all0)
 replace S_LO_BYTE_SHIFT := Sta_keep S_LO_BYTE_SHIFT K4 (allS Ap3.ns all0)
 have Z4 : n0 ≤ T4.heap.size := Nat.le_trans Z3 K4.1
 replace KP := KP.trans K4 (allS (Or.inr sz_np1) all0)
 replace Ap4 : Ars Z T4.heap np1 .byte [(.int (c0 >>> ((0 : Int32) &&& 31)).toInt8.toInt32), (.int (c0 >>> ((8 : Int32) &&& 31)).toInt8.toInt32), (.int (c1 >>> ((0 : Int32) &&& 31)).toInt8.toInt32), (.int (c1 >>> ((8 : Int32) &&& 31)).toInt8.toInt32), (.int (c2 >>> ((0 : Int32) &&& 31)).toInt8.toInt32), (.int (c2 >>> ((8 : Int32) &&& 31)).toInt8.toInt32)] := Ap4
 refine Run.x_iinc (q := 26) X4 hx #[.val (.ref ca), .val (.int 3), .val (.int 3), .val (.ref np1), .val (.int 2)] (hb hby d11_23) rfl (z := (3 : Int32)) (by decide) rfl rfl ?_
 refine Run.x_iinc (q := 29) X4 hx #[.val (.ref ca), .val (.int 3), .val (.int 3), .val (.ref np1), .val (.int 3)] (hb hby d11_26) rfl (z := (3 : Int32)) (by decide) rfl rfl ?_
 refine Run.x_goto (q := 8) X4 hx (hb hby d11_29) (by decide) (by decide) ?_
 refine Run.x_iload (q := 10) X4 hx (hb hby d11_8) rfl rfl ?_
 refine Run.x_iloadN (q := 11) X4 hx (hb hby d11_10) rfl rfl ?_
 refine Run.x_icmpYes (q := 32) X4 hx (hb hby d11_11) (flt (by decide : ¬ ((3 : Int32) < (3 : Int32)))).2.1 (by decide) (by decide) ?_
 refine Run.x_aloadN (q := 33) X4 hx (hb hby d11_32) rfl rfl rfl ?_
 replace A_ca := A_ca.keep K4 (ninS ne_ca_np1 nin0)
 refine Run.retA X4 hx hlk rfl (t := (.array .byte)) hret rfl rfl rfl (hb hby d11_33) (by decide) (by decide) ?_
 exact ⟨np1, rfl, N4, KP, sz_np1, Ap4⟩
theorem d12_0 : decode jdk_52_method_21_code 0 = .ok (.iconst 0, 1) := by decide +kernel
theorem d12_1 : decode jdk_52_method_21_code 1 = .ok (.istore 5, 2) := by decide +kernel
theorem d12_3 : decode jdk_52_method_21_code 3 = .ok (.iload 5, 2) := by decide +kernel
theorem d12_5 : decode jdk_52_method_21_code 5 = .ok (.iload 4, 2) := by decide +kernel
theorem d12_7 : decode jdk_52_method_21_code 7 = .ok (.if_icmp .ge 37, 3) := by decide +kernel
theorem d12_10 : decode jdk_52_method_21_code 10 = .ok (.aload_n 0, 1) := by decide +kernel
theorem d12_11 : decode jdk_52_method_21_code 11 = .ok (.iload_n 1, 1) := by decide +kernel
theorem d12_12 : decode jdk_52_method_21_code 12 = .ok (.caload, 1) := by decide +kernel
theorem d12_13 : decode jdk_52_method_21_code 13 = .ok (.istore 6, 2) := by decide +kernel
theorem d12_15 : decode jdk_52_method_21_code 15 = .ok (.iload 6, 2) := by decide +kernel
theorem d12_17 : decode jdk_52_method_21_code 17 = .ok (.sipush 255, 3) := by decide +kernel
theorem d12_20 : decode jdk_52_method_21_code 20 = .ok (.if_icmp .le 6, 3) := by decide +kernel
theorem d12_23 : decode jdk_52_method_21_code 23 = .ok (.iload 5, 2) := by decide +kernel
theorem d12_25 : decode jdk_52_method_21_code 25 = .ok (.ireturn, 1) := by decide +kernel
theorem d12_26 : decode jdk_52_method_21_code 26 = .ok (.aload_n 2, 1) := by decide +kernel
theorem d12_27 : decode jdk_52_method_21_code 27 = .ok (.iload_n 3, 1) := by decide +kernel
theorem d12_28 : decode jdk_52_method_21_code 28 = .ok (.iload 6, 2) := by decide +kernel
theorem d12_30 : decode jdk_52_method_21_code 30 = .ok (.i2b, 1) := by decide +kernel
theorem d12_31 : decode jdk_52_method_21_code 31 = .ok (.bastore, 1) := by decide +kernel
theorem d12_32 : decode jdk_52_method_21_code 32 = .ok (.iinc 1 1, 3) := by decide +kernel
theorem d12_35 : decode jdk_52_method_21_code 35 = .ok (.iinc 3 1, 3) := by decide +kernel
theorem d12_38 : decode jdk_52_method_21_code 38 = .ok (.iinc 5 1, 3) := by decide +kernel
theorem d12_41 : decode jdk_52_method_21_code 41 = .ok (.goto (-38), 3) := by decide +kernel
theorem d12_44 : decode jdk_52_method_21_code 44 = .ok (.iload 4, 2) := by decide +kernel
theorem d12_46 : decode jdk_52_method_21_code 46 = .ok (.ireturn, 1) := by decide +kernel
theorem ef_c_cm5_1_0 (m : MethodId) (ca : Addr) (ds : Addr) : entryFrame m #[(.ref ca), (.int 0), (.ref ds), (.int 0), (.int 1)] 7 = mkF m 0 #[.val (.ref ca), .val (.int 0), .val (.ref ds), .val (.int 0), .val (.int 1), .unset, .unset] [] := by first | (simp [entryFrame, mkF, argsToLocals, Value.category]; done) | rfl
set_option maxRecDepth 65536 in
set_option maxHeartbeats 40000000 in
theorem c_cm5_1_0 (l : Launch) (Z : State) (a0 : Array Value) (hw : ∀ d ∈ tables_1, d.before a0 Z = true) (ca : Addr) (ds : Addr) (h0 : Heap) (n0 : Nat) (Z0 : n0 ≤ h0.size) (c0 : Int32) (A_ca : Ars Z h0 ca .char [(.int c0)]) (A_ds : Ars Z h0 ds .byte [(.int 0)]) (g_ds : n0 ≤ ds) (ne_ca_ds : ca ≠ ds) (hg : (255 : Int32) < c0) :
  Ctr l Z (⟨"java/lang/StringUTF16", "compress", "([CI[BII)I"⟩ : MethodName) jdk_52_method_21_code 7 (some .int) ({ frames := 0, cells := 0, slots := 0, locals := 0 } : Room) #[(.ref ca), (.int 0), (.ref ds), (.int 0), (.int 1)] h0 (fun v h L => v = some (.int 0) ∧ Fr n0 L ∧ Keep h0 h [ds] ∧ Ars Z h ds .byte [(.int 0)]) := by
 refine Ctr.of (plainFor_of_name pn_3) (fun m => ef_c_cm5_1_0 m ca ds) ?_
 intro p e s m below meth c T0 hx hby hml hown hnm hret hlk hZ e0 X0
 have N0 := Fr.nil n0
 replace hown : s.vm.findClass "java/lang/StringUTF16" = some m.cls := hown
 replace hml : c.maxLocals = 7 := hml
 have KP := Keep.refl h0 [ds]
 refine Run.x_iconst (q := 1) X0 hx (hb hby d12_0) (z := (0 : Int32)) rfl rfl ?_
 refine Run.x_istore (q := 3) X0 hx #[.val (.ref ca), .val (.int 0), .val (.ref ds), .val (.int 0), .val (.int 1), .val (.int 0), .unset] (hb hby d12_1) rfl rfl ?_
 refine Run.x_iload (q := 5) X0 hx (hb hby d12_3) rfl rfl ?_
 refine Run.x_iload (q := 7) X0 hx (hb hby d12_5) rfl rfl ?_
 refine Run.x_icmpNo (q := 10) X0 hx (hb hby d12_7) (tlt (by decide : (0 : Int32) < (1 : Int32))).2.1 rfl ?_
 refine Run.x_aloadN (q := 11) X0 hx (hb hby d12_10) rfl rfl rfl ?_
 refine Run.x_iloadN (q := 12) X0 hx (hb hby d12_11) rfl rfl ?_
 refine Run.y_ldC (q := 13) X0 hx hZ e0 A_ca (i := 0) (v := (.int c0)) (by decide) rfl (hb hby d12_12) rfl ?_
 refine Run.x_istore (q := 15) X0 hx #[.val (.ref ca), .val (.int 0), .val (.ref ds), .val (.int 0), .val (.int 1), .val (.int 0), .val (.int c0)] (hb hby d12_13) rfl rfl ?_
 refine Run.x_iload (q := 17) X0 hx (hb hby d12_15) rfl rfl ?_
 refine Run.x_sipush (q := 20) X0 hx (hb hby d12_17) (z := (255 : Int32)) rfl rfl ?_
 refine Run.x_icmpNo (q := 23) X0 hx (hb hby d12_20) (tlt hg).2.2.2 rfl ?_
 refine Run.x_iload (q := 25) X0 hx (hb hby d12_23) rfl rfl ?_
 refine Run.retI X0 hx hlk e0 hret (hb hby d12_25) (by decide) (by decide) ?_
 exact ⟨rfl, N0, KP, A_ds⟩
theorem ef_c_cm5_1_1 (m : MethodId) (ca : Addr) (ds : Addr) : entryFrame m #[(.ref ca), (.int 0), (.ref ds), (.int 0), (.int 1)] 7 = mkF m 0 #[.val (.ref ca), .val (.int 0), .val (.ref ds), .val (.int 0), .val (.int 1), .unset, .unset] [] := by first | (simp [entryFrame, mkF, argsToLocals, Value.category]; done) | rfl
set_option maxRecDepth 65536 in
set_option maxHeartbeats 40000000 in
theorem c_cm5_1_1 (l : Launch) (Z : State) (a0 : Array Value) (hw : ∀ d ∈ tables_1, d.before a0 Z = true) (ca : Addr) (ds : Addr) (h0 : Heap) (n0 : Nat) (Z0 : n0 ≤ h0.size) (c0 : Int32) (A_ca : Ars Z h0 ca .char [(.int c0)]) (A_ds : Ars Z h0 ds .byte [(.int 0)]) (g_ds : n0 ≤ ds) (ne_ca_ds : ca ≠ ds) (hl0 : ¬ (255 : Int32) < c0) :
  Ctr l Z (⟨"java/lang/StringUTF16", "compress", "([CI[BII)I"⟩ : MethodName) jdk_52_method_21_code 7 (some .int) ({ frames := 0, cells := 0, slots := 0, locals := 0 } : Room) #[(.ref ca), (.int 0), (.ref ds), (.int 0), (.int 1)] h0 (fun v h L => v = some (.int 1) ∧ Fr n0 L ∧ Keep h0 h [ds] ∧ Ars Z h ds .byte [(.int c0.toInt8.toInt32)]) := by
 refine Ctr.of (plainFor_of_name pn_3) (fun m => ef_c_cm5_1_1 m ca ds) ?_
 intro p e s m below meth c T0 hx hby hml hown hnm hret hlk hZ e0 X0
 have N0 := Fr.nil n0
 replace hown : s.vm.findClass "java/lang/StringUTF16" = some m.cls := hown
 replace hml : c.maxLocals = 7 := hml
 have KP := Keep.refl h0 [ds]
 refine Run.x_iconst (q := 1) X0 hx (hb hby d12_0) (z := (0 : Int32)) rfl rfl ?_
 refine Run.x_istore (q := 3) X0 hx #[.val (.ref ca), .val (.int 0), .val (.ref ds), .val (.int 0), .val (.int 1), .val (.int 0), .unset] (hb hby d12_1) rfl rfl ?_
 refine Run.x_iload (q := 5) X0 hx (hb hby d12_3) rfl rfl ?_
 refine Run.x_iload (q := 7) X0 hx (hb hby d12_5) rfl rfl ?_
 refine Run.x_icmpNo (q := 10) X0 hx (hb hby d12_7) (tlt (by decide : (0 : Int32) < (1 : Int32))).2.1 rfl ?_
 refine Run.x_aloadN (q := 11) X0 hx (hb hby d12_10) rfl rfl rfl ?_
 refine Run.x_iloadN (q := 12) X0 hx (hb hby d12_11) rfl rfl ?_
 refine Run.y_ldC (q := 13) X0 hx hZ e0 A_ca (i := 0) (v := (.int c0)) (by decide) rfl (hb hby d12_12) rfl ?_
 refine Run.x_istore (q := 15) X0 hx #[.val (.ref ca), .val (.int 0), .val (.ref ds), .val (.int 0), .val (.int 1), .val (.int 0), .val (.int c0)] (hb hby d12_13) rfl rfl ?_
 refine Run.x_iload (q := 17) X0 hx (hb hby d12_15) rfl rfl ?_
 refine Run.x_sipush (q := 20) X0 hx (hb hby d12_17) (z := (255 : Int32)) rfl rfl ?_
 refine Run.x_icmpYes (q := 26) X0 hx (hb hby d12_20) (flt hl0).2.2.2 (by decide) (by decide) ?_
 refine Run.x_aloadN (q := 27) X0 hx (hb hby d12_26) rfl rfl rfl ?_
 refine Run.x_iloadN (q := 28) X0 hx (hb hby d12_27) rfl rfl ?_
 refine Run.x_iload (q := 30) X0 hx (hb hby d12_28) rfl rfl ?_
 refine Run.x_i2b (q := 31) X0 hx (hb hby d12_30) rfl rfl ?_
 refine Run.y_stB (q := 32) X0 hx hZ e0 A_ds (i := 0) (by decide) (Nat.le_of_ble_eq_true rfl) (z' := c0.toInt8.toInt32) (nar_b _) (hb hby d12_31) rfl fun T1 h1 X1 e1 W1 A1 => ?_
 replace A_ds : Ars Z h1 ds .byte [(.int c0.toInt8.toInt32)] := A1
 replace KP := KP.wr W1 (Or.inl (by simp))
 have N1 := Fr.snoc X1 N0 g_ds
 have Z1 : n0 ≤ h1.size := Nat.le_trans Z0 (Nat.le_of_eq W1.size.symm)
 refine Run.x_iinc (q := 35) X1 hx #[.val (.ref ca), .val (.int 1), .val (.ref ds), .val (.int 0), .val (.int 1), .val (.int 0), .val (.int c0)] (hb hby d12_32) rfl (z := (1 : Int32)) (by decide) rfl rfl ?_
 refine Run.x_iinc (q := 38) X1 hx #[.val (.ref ca), .val (.int 1), .val (.ref ds), .val (.int 1), .val (.int 1), .val (.int 0), .val (.int c0)] (hb hby d12_35) rfl (z := (1 : Int32)) (by decide) rfl rfl ?_
 refine Run.x_iinc (q := 41) X1 hx #[.val (.ref ca), .val (.int 1), .val (.ref ds), .val (.int 1), .val (.int 1), .val (.int 1), .val (.int c0)] (hb hby d12_38) rfl (z := (1 : Int32)) (by decide) rfl rfl ?_
 refine Run.x_goto (q := 3) X1 hx (hb hby d12_41) (by decide) (by decide) ?_
 refine Run.x_iload (q := 5) X1 hx (hb hby d12_3) rfl rfl ?_
 refine Run.x_iload (q := 7) X1 hx (hb hby d12_5) rfl rfl ?_
 refine Run.x_icmpYes (q := 44) X1 hx (hb hby d12_7) (flt (by decide : ¬ ((1 : Int32) < (1 : Int32)))).2.1 (by decide) (by decide) ?_
 refine Run.x_iload (q := 46) X1 hx (hb hby d12_44) rfl rfl ?_
 replace A_ca := A_ca.other W1 ne_ca_ds
 refine Run.retI X1 hx hlk e1 hret (hb hby d12_46) (by decide) (by decide) ?_
 exact ⟨rfl, N1, KP, A_ds⟩
theorem ef_c_cm5_2_0 (m : MethodId) (ca : Addr) (ds : Addr) : entryFrame m #[(.ref ca), (.int 0), (.ref ds), (.int 0), (.int 2)] 7 = mkF m 0 #[.val (.ref ca), .val (.int 0), .val (.ref ds), .val (.int 0), .val (.int 2), .unset, .unset] [] := by first | (simp [entryFrame, mkF, argsToLocals, Value.category]; done) | rfl
set_option maxRecDepth 65536 in
set_option maxHeartbeats 40000000 in
theorem c_cm5_2_0 (l : Launch) (Z : State) (a0 : Array Value) (hw : ∀ d ∈ tables_1, d.before a0 Z = true) (ca : Addr) (ds : Addr) (h0 : Heap) (n0 : Nat) (Z0 : n0 ≤ h0.size) (c0 : Int32) (c1 : Int32) (A_ca : Ars Z h0 ca .char [(.int c0), (.int c1)]) (A_ds : Ars Z h0 ds .byte [(.int 0), (.int 0)]) (g_ds : n0 ≤ ds) (ne_ca_ds : ca ≠ ds) (hg : (255 : Int32) < c0) :
  Ctr l Z (⟨"java/lang/StringUTF16", "compress", "([CI[BII)I"⟩ : MethodName) jdk_52_method_21_code 7 (some .int) ({ frames := 0, cells := 0, slots := 0, locals := 0 } : Room) #[(.ref ca), (.int 0), (.ref ds), (.int 0), (.int 2)] h0 (fun v h L => v = some (.int 0) ∧ Fr n0 L ∧ Keep h0 h [ds] ∧ Ars Z h ds .byte [(.int 0), (.int 0)]) := by
 refine Ctr.of (plainFor_of_name pn_3) (fun m => ef_c_cm5_2_0 m ca ds) ?_
 intro p e s m below meth c T0 hx hby hml hown hnm hret hlk hZ e0 X0
 have N0 := Fr.nil n0
 replace hown : s.vm.findClass "java/lang/StringUTF16" = some m.cls := hown
 replace hml : c.maxLocals = 7 := hml
 have KP := Keep.refl h0 [ds]
 refine Run.x_iconst (q := 1) X0 hx (hb hby d12_0) (z := (0 : Int32)) rfl rfl ?_
 refine Run.x_istore (q := 3) X0 hx #[.val (.ref ca), .val (.int 0), .val (.ref ds), .val (.int 0), .val (.int 2), .val (.int 0), .unset] (hb hby d12_1) rfl rfl ?_
 refine Run.x_iload (q := 5) X0 hx (hb hby d12_3) rfl rfl ?_
 refine Run.x_iload (q := 7) X0 hx (hb hby d12_5) rfl rfl ?_
 refine Run.x_icmpNo (q := 10) X0 hx (hb hby d12_7) (tlt (by decide : (0 : Int32) < (2 : Int32))).2.1 rfl ?_
 refine Run.x_aloadN (q := 11) X0 hx (hb hby d12_10) rfl rfl rfl ?_
 refine Run.x_iloadN (q := 12) X0 hx (hb hby d12_11) rfl rfl ?_
 refine Run.y_ldC (q := 13) X0 hx hZ e0 A_ca (i := 0) (v := (.int c0)) (by decide) rfl (hb hby d12_12) rfl ?_
 refine Run.x_istore (q := 15) X0 hx #[.val (.ref ca), .val (.int 0), .val (.ref ds), .val (.int 0), .val (.int 2), .val (.int 0), .val (.int c0)] (hb hby d12_13) rfl rfl ?_
 refine Run.x_iload (q := 17) X0 hx (hb hby d12_15) rfl rfl ?_
 refine Run.x_sipush (q := 20) X0 hx (hb hby d12_17) (z := (255 : Int32)) rfl rfl ?_
 refine Run.x_icmpNo (q := 23) X0 hx (hb hby d12_20) (tlt hg).2.2.2 rfl ?_
 refine Run.x_iload (q := 25) X0 hx (hb hby d12_23) rfl rfl ?_
 refine Run.retI X0 hx hlk e0 hret (hb hby d12_25) (by decide) (by decide) ?_
 exact ⟨rfl, N0, KP, A_ds⟩
theorem ef_c_cm5_2_1 (m : MethodId) (ca : Addr) (ds : Addr) : entryFrame m #[(.ref ca), (.int 0), (.ref ds), (.int 0), (.int 2)] 7 = mkF m 0 #[.val (.ref ca), .val (.int 0), .val (.ref ds), .val (.int 0), .val (.int 2), .unset, .unset] [] := by first | (simp [entryFrame, mkF, argsToLocals, Value.category]; done) | rfl
set_option maxRecDepth 65536 in
set_option maxHeartbeats 40000000 in
theorem c_cm5_2_1 (l : Launch) (Z : State) (a0 : Array Value) (hw : ∀ d ∈ tables_1, d.before a0 Z = true) (ca : Addr) (ds : Addr) (h0 : Heap) (n0 : Nat) (Z0 : n0 ≤ h0.size) (c0 : Int32) (c1 : Int32) (A_ca : Ars Z h0 ca .char [(.int c0), (.int c1)]) (A_ds : Ars Z h0 ds .byte [(.int 0), (.int 0)]) (g_ds : n0 ≤ ds) (ne_ca_ds : ca ≠ ds) (hl0 : ¬ (255 : Int32) < c0) (hg : (255 : Int32) < c1) :
  Ctr l Z (⟨"java/lang/StringUTF16", "compress", "([CI[BII)I"⟩ : MethodName) jdk_52_method_21_code 7 (some .int) ({ frames := 0, cells := 0, slots := 0, locals := 0 } : Room) #[(.ref ca), (.int 0), (.ref ds), (.int 0), (.int 2)] h0 (fun v h L => v = some (.int 1) ∧ Fr n0 L ∧ Keep h0 h [ds] ∧ Ars Z h ds .byte [(.int c0.toInt8.toInt32), (.int 0)]) := by
 refine Ctr.of (plainFor_of_name pn_3) (fun m => ef_c_cm5_2_1 m ca ds) ?_
 intro p e s m below meth c T0 hx hby hml hown hnm hret hlk hZ e0 X0
 have N0 := Fr.nil n0
 replace hown : s.vm.findClass "java/lang/StringUTF16" = some m.cls := hown
 replace hml : c.maxLocals = 7 := hml
 have KP := Keep.refl h0 [ds]
 refine Run.x_iconst (q := 1) X0 hx (hb hby d12_0) (z := (0 : Int32)) rfl rfl ?_
 refine Run.x_istore (q := 3) X0 hx #[.val (.ref ca), .val (.int 0), .val (.ref ds), .val (.int 0), .val (.int 2), .val (.int 0), .unset] (hb hby d12_1) rfl rfl ?_
 refine Run.x_iload (q := 5) X0 hx (hb hby d12_3) rfl rfl ?_
 refine Run.x_iload (q := 7) X0 hx (hb hby d12_5) rfl rfl ?_
 refine Run.x_icmpNo (q := 10) X0 hx (hb hby d12_7) (tlt (by decide : (0 : Int32) < (2 : Int32))).2.1 rfl ?_
 refine Run.x_aloadN (q := 11) X0 hx (hb hby d12_10) rfl rfl rfl ?_
 refine Run.x_iloadN (q := 12) X0 hx (hb hby d12_11) rfl rfl ?_
 refine Run.y_ldC (q := 13) X0 hx hZ e0 A_ca (i := 0) (v := (.int c0)) (by decide) rfl (hb hby d12_12) rfl ?_
 refine Run.x_istore (q := 15) X0 hx #[.val (.ref ca), .val (.int 0), .val (.ref ds), .val (.int 0), .val (.int 2), .val (.int 0), .val (.int c0)] (hb hby d12_13) rfl rfl ?_
 refine Run.x_iload (q := 17) X0 hx (hb hby d12_15) rfl rfl ?_
 refine Run.x_sipush (q := 20) X0 hx (hb hby d12_17) (z := (255 : Int32)) rfl rfl ?_
 refine Run.x_icmpYes (q := 26) X0 hx (hb hby d12_20) (flt hl0).2.2.2 (by decide) (by decide) ?_
 refine Run.x_aloadN (q := 27) X0 hx (hb hby d12_26) rfl rfl rfl ?_
 refine Run.x_iloadN (q := 28) X0 hx (hb hby d12_27) rfl rfl ?_
 refine Run.x_iload (q := 30) X0 hx (hb hby d12_28) rfl rfl ?_
 refine Run.x_i2b (q := 31) X0 hx (hb hby d12_30) rfl rfl ?_
 refine Run.y_stB (q := 32) X0 hx hZ e0 A_ds (i := 0) (by decide) (Nat.le_of_ble_eq_true rfl) (z' := c0.toInt8.toInt32) (nar_b _) (hb hby d12_31) rfl fun T1 h1 X1 e1 W1 A1 => ?_
 replace A_ds : Ars Z h1 ds .byte [(.int c0.toInt8.toInt32), (.int 0)] := A1
 replace KP := KP.wr W1 (Or.inl (by simp))
 have N1 := Fr.snoc X1 N0 g_ds
 have Z1 : n0 ≤ h1.size := Nat.le_trans Z0 (Nat.le_of_eq W1.size.symm)
 refine Run.x_iinc (q := 35) X1 hx #[.val (.ref ca), .val (.int 1), .val (.ref ds), .val (.int 0), .val (.int 2), .val (.int 0), .val (.int c0)] (hb hby d12_32) rfl (z := (1 : Int32)) (by decide) rfl rfl ?_
 refine Run.x_iinc (q := 38) X1 hx #[.val (.ref ca), .val (.int 1), .val (.ref ds), .val (.int 1), .val (.int 2), .val (.int 0), .val (.int c0)] (hb hby d12_35) rfl (z := (1 : Int32)) (by decide) rfl rfl ?_
 refine Run.x_iinc (q := 41) X1 hx #[.val (.ref ca), .val (.int 1), .val (.ref ds), .val (.int 1), .val (.int 2), .val (.int 1), .val (.int c0)] (hb hby d12_38) rfl (z := (1 : Int32)) (by decide) rfl rfl ?_
 refine Run.x_goto (q := 3) X1 hx (hb hby d12_41) (by decide) (by decide) ?_
 refine Run.x_iload (q := 5) X1 hx (hb hby d12_3) rfl rfl ?_
 refine Run.x_iload (q := 7) X1 hx (hb hby d12_5) rfl rfl ?_
 refine Run.x_icmpNo (q := 10) X1 hx (hb hby d12_7) (tlt (by decide : (1 : Int32) < (2 : Int32))).2.1 rfl ?_
 refine Run.x_aloadN (q := 11) X1 hx (hb hby d12_10) rfl rfl rfl ?_
 refine Run.x_iloadN (q := 12) X1 hx (hb hby d12_11) rfl rfl ?_
 replace A_ca := A_ca.other W1 ne_ca_ds
 refine Run.y_ldC (q := 13) X1 hx hZ e1 A_ca (i := 1) (v := (.int c1)) (by decide) rfl (hb hby d12_12) rfl ?_
 refine Run.x_istore (q := 15) X1 hx #[.val (.ref ca), .val (.int 1), .val (.ref ds), .val (.int 1), .val (.int 2), .val (.int 1), .val (.int c1)] (hb hby d12_13) rfl rfl ?_
 refine Run.x_iload (q := 17) X1 hx (hb hby d12_15) rfl rfl ?_
 refine Run.x_sipush (q := 20) X1 hx (hb hby d12_17) (z := (255 : Int32)) rfl rfl ?_
 refine Run.x_icmpNo (q := 23) X1 hx (hb hby d12_20) (tlt hg).2.2.2 rfl ?_
 refine Run.x_iload (q := 25) X1 hx (hb hby d12_23) rfl rfl ?_
 refine Run.retI X1 hx hlk e1 hret (hb hby d12_25) (by decide) (by decide) ?_
 exact ⟨rfl, N1, KP, A_ds⟩
theorem ef_c_cm5_2_2 (m : MethodId) (ca : Addr) (ds : Addr) : entryFrame m #[(.ref ca), (.int 0), (.ref ds), (.int 0), (.int 2)] 7 = mkF m 0 #[.val (.ref ca), .val (.int 0), .val (.ref ds), .val (.int 0), .val (.int 2), .unset, .unset] [] := by first | (simp [entryFrame, mkF, argsToLocals, Value.category]; done) | rfl
set_option maxRecDepth 65536 in
set_option maxHeartbeats 40000000 in
theorem c_cm5_2_2 (l : Launch) (Z : State) (a0 : Array Value) (hw : ∀ d ∈ tables_1, d.before a0 Z = true) (ca : Addr) (ds : Addr) (h0 : Heap) (n0 : Nat) (Z0 : n0 ≤ h0.size) (c0 : Int32) (c1 : Int32) (A_ca : Ars Z h0 ca .char [(.int c0), (.int c1)]) (A_ds : Ars Z h0 ds .byte [(.int 0), (.int 0)]) (g_ds : n0 ≤ ds) (ne_ca_ds : ca ≠ ds) (hl0 : ¬ (255 : Int32) < c0) (hl1 : ¬ (255 : Int32) < c1) :
  Ctr l Z (⟨"java/lang/StringUTF16", "compress", "([CI[BII)I"⟩ : MethodName) jdk_52_method_21_code 7 (some .int) ({ frames := 0, cells := 0, slots := 0, locals := 0 } : Room) #[(.ref ca), (.int 0), (.ref ds), (.int 0), (.int 2)] h0 (fun v h L => v = some (.int 2) ∧ Fr n0 L ∧ Keep h0 h [ds] ∧ Ars Z h ds .byte [(.int c0.toInt8.toInt32), (.int c1.toInt8.toInt32)]) := by
 refine Ctr.of (plainFor_of_name pn_3) (fun m => ef_c_cm5_2_2 m ca ds) ?_
 intro p e s m below meth c T0 hx hby hml hown hnm hret hlk hZ e0 X0
 have N0 := Fr.nil n0
 replace hown : s.vm.findClass "java/lang/StringUTF16" = some m.cls := hown
 replace hml : c.maxLocals = 7 := hml
 have KP := Keep.refl h0 [ds]
 refine Run.x_iconst (q := 1) X0 hx (hb hby d12_0) (z := (0 : Int32)) rfl rfl ?_
 refine Run.x_istore (q := 3) X0 hx #[.val (.ref ca), .val (.int 0), .val (.ref ds), .val (.int 0), .val (.int 2), .val (.int 0), .unset] (hb hby d12_1) rfl rfl ?_
 refine Run.x_iload (q := 5) X0 hx (hb hby d12_3) rfl rfl ?_
 refine Run.x_iload (q := 7) X0 hx (hb hby d12_5) rfl rfl ?_
 refine Run.x_icmpNo (q := 10) X0 hx (hb hby d12_7) (tlt (by decide : (0 : Int32) < (2 : Int32))).2.1 rfl ?_
 refine Run.x_aloadN (q := 11) X0 hx (hb hby d12_10) rfl rfl rfl ?_
 refine Run.x_iloadN (q := 12) X0 hx (hb hby d12_11) rfl rfl ?_
 refine Run.y_ldC (q := 13) X0 hx hZ e0 A_ca (i := 0) (v := (.int c0)) (by decide) rfl (hb hby d12_12) rfl ?_
 refine Run.x_istore (q := 15) X0 hx #[.val (.ref ca), .val (.int 0), .val (.ref ds), .val (.int 0), .val (.int 2), .val (.int 0), .val (.int c0)] (hb hby d12_13) rfl rfl ?_
 refine Run.x_iload (q := 17) X0 hx (hb hby d12_15) rfl rfl ?_
 refine Run.x_sipush (q := 20) X0 hx (hb hby d12_17) (z := (255 : Int32)) rfl rfl ?_
 refine Run.x_icmpYes (q := 26) X0 hx (hb hby d12_20) (flt hl0).2.2.2 (by decide) (by decide) ?_
 refine Run.x_aloadN (q := 27) X0 hx (hb hby d12_26) rfl rfl rfl ?_
 refine Run.x_iloadN (q := 28) X0 hx (hb hby d12_27) rfl rfl ?_
 refine Run.x_iload (q := 30) X0 hx (hb hby d12_28) rfl rfl ?_
 refine Run.x_i2b (q := 31) X0 hx (hb hby d12_30) rfl rfl ?_
 refine Run.y_stB (q := 32) X0 hx hZ e0 A_ds (i := 0) (by decide) (Nat.le_of_ble_eq_true rfl) (z' := c0.toInt8.toInt32) (nar_b _) (hb hby d12_31) rfl fun T1 h1 X1 e1 W1 A1 => ?_
 replace A_ds : Ars Z h1 ds .byte [(.int c0.toInt8.toInt32), (.int 0)] := A1
 replace KP := KP.wr W1 (Or.inl (by simp))
 have N1 := Fr.snoc X1 N0 g_ds
 have Z1 : n0 ≤ h1.size := Nat.le_trans Z0 (Nat.le_of_eq W1.size.symm)
 refine Run.x_iinc (q := 35) X1 hx #[.val (.ref ca), .val (.int 1), .val (.ref ds), .val (.int 0), .val (.int 2), .val (.int 0), .val (.int c0)] (hb hby d12_32) rfl (z := (1 : Int32)) (by decide) rfl rfl ?_
 refine Run.x_iinc (q := 38) X1 hx #[.val (.ref ca), .val (.int 1), .val (.ref ds), .val (.int 1), .val (.int 2), .val (.int 0), .val (.int c0)] (hb hby d12_35) rfl (z := (1 : Int32)) (by decide) rfl rfl ?_
 refine Run.x_iinc (q := 41) X1 hx #[.val (.ref ca), .val (.int 1), .val (.ref ds), .val (.int 1), .val (.int 2), .val (.int 1), .val (.int c0)] (hb hby d12_38) rfl (z := (1 : Int32)) (by decide) rfl rfl ?_
 refine Run.x_goto (q := 3) X1 hx (hb hby d12_41) (by decide) (by decide) ?_
 refine Run.x_iload (q := 5) X1 hx (hb hby d12_3) rfl rfl ?_
 refine Run.x_iload (q := 7) X1 hx (hb hby d12_5) rfl rfl ?_
 refine Run.x_icmpNo (q := 10) X1 hx (hb hby d12_7) (tlt (by decide : (1 : Int32) < (2 : Int32))).2.1 rfl ?_
 refine Run.x_aloadN (q := 11) X1 hx (hb hby d12_10) rfl rfl rfl ?_
 refine Run.x_iloadN (q := 12) X1 hx (hb hby d12_11) rfl rfl ?_
 replace A_ca := A_ca.other W1 ne_ca_ds
 refine Run.y_ldC (q := 13) X1 hx hZ e1 A_ca (i := 1) (v := (.int c1)) (by decide) rfl (hb hby d12_12) rfl ?_
 refine Run.x_istore (q := 15) X1 hx #[.val (.ref ca), .val (.int 1), .val (.ref ds), .val (.int 1), .val (.int 2), .val (.int 1), .val (.int c1)] (hb hby d12_13) rfl rfl ?_
 refine Run.x_iload (q := 17) X1 hx (hb hby d12_15) rfl rfl ?_
 refine Run.x_sipush (q := 20) X1 hx (hb hby d12_17) (z := (255 : Int32)) rfl rfl ?_
 refine Run.x_icmpYes (q := 26) X1 hx (hb hby d12_20) (flt hl1).2.2.2 (by decide) (by decide) ?_
 refine Run.x_aloadN (q := 27) X1 hx (hb hby d12_26) rfl rfl rfl ?_
 refine Run.x_iloadN (q := 28) X1 hx (hb hby d12_27) rfl rfl ?_
 refine Run.x_iload (q := 30) X1 hx (hb hby d12_28) rfl rfl ?_
 refine Run.x_i2b (q := 31) X1 hx (hb hby d12_30) rfl rfl ?_
 refine Run.y_stB (q := 32) X1 hx hZ e1 A_ds (i := 1) (by decide) (Nat.le_of_ble_eq_true rfl) (z' := c1.toInt8.toInt32) (nar_b _) (hb hby d12_31) rfl fun T2 h2 X2 e2 W2 A2 => ?_
 replace A_ds : Ars Z h2 ds .byte [(.int c0.toInt8.toInt32), (.int c1.toInt8.toInt32)] := A2
 replace KP := KP.wr W2 (Or.inl (by simp))
 have N2 := Fr.snoc X2 N1 g_ds
 have Z2 : n0 ≤ h2.size := Nat.le_trans Z1 (Nat.le_of_eq W2.size.symm)
 refine Run.x_iinc (q := 35) X2 hx #[.val (.ref ca), .val (.int 2), .val (.ref ds), .val (.int 1), .val (.int 2), .val (.int 1), .val (.int c1)] (hb hby d12_32) rfl (z := (2 : Int32)) (by decide) rfl rfl ?_
 refine Run.x_iinc (q := 38) X2 hx #[.val (.ref ca), .val (.int 2), .val (.ref ds), .val (.int 2), .val (.int 2), .val (.int 1), .val (.int c1)] (hb hby d12_35) rfl (z := (2 : Int32)) (by decide) rfl rfl ?_
 refine Run.x_iinc (q := 41) X2 hx #[.val (.ref ca), .val (.int 2), .val (.ref ds), .val (.int 2), .val (.int 2), .val (.int 2), .val (.int c1)] (hb hby d12_38) rfl (z := (2 : Int32)) (by decide) rfl rfl ?_
 refine Run.x_goto (q := 3) X2 hx (hb hby d12_41) (by decide) (by decide) ?_
 refine Run.x_iload (q := 5) X2 hx (hb hby d12_3) rfl rfl ?_
 refine Run.x_iload (q := 7) X2 hx (hb hby d12_5) rfl rfl ?_
 refine Run.x_icmpYes (q := 44) X2 hx (hb hby d12_7) (flt (by decide : ¬ ((2 : Int32) < (2 : Int32)))).2.1 (by decide) (by decide) ?_
 refine Run.x_iload (q := 46) X2 hx (hb hby d12_44) rfl rfl ?_
 replace A_ca := A_ca.other W2 ne_ca_ds
 refine Run.retI X2 hx hlk e2 hret (hb hby d12_46) (by decide) (by decide) ?_
 exact ⟨rfl, N2, KP, A_ds⟩
theorem ef_c_cm5_3_0 (m : MethodId) (ca : Addr) (ds : Addr) : entryFrame m #[(.ref ca), (.int 0), (.ref ds), (.int 0), (.int 3)] 7 = mkF m 0 #[.val (.ref ca), .val (.int 0), .val (.ref ds), .val (.int 0), .val (.int 3), .unset, .unset] [] := by first | (simp [entryFrame, mkF, argsToLocals, Value.category]; done) | rfl
set_option maxRecDepth 65536 in
set_option maxHeartbeats 40000000 in
theorem c_cm5_3_0 (l : Launch) (Z : State) (a0 : Array Value) (hw : ∀ d ∈ tables_1, d.before a0 Z = true) (ca : Addr) (ds : Addr) (h0 : Heap) (n0 : Nat) (Z0 : n0 ≤ h0.size) (c0 : Int32) (c1 : Int32) (c2 : Int32) (A_ca : Ars Z h0 ca .char [(.int c0), (.int c1), (.int c2)]) (A_ds : Ars Z h0 ds .byte [(.int 0), (.int 0), (.int 0)]) (g_ds : n0 ≤ ds) (ne_ca_ds : ca ≠ ds) (hg : (255 : Int32) < c0) :
  Ctr l Z (⟨"java/lang/StringUTF16", "compress", "([CI[BII)I"⟩ : MethodName) jdk_52_method_21_code 7 (some .int) ({ frames := 0, cells := 0, slots := 0, locals := 0 } : Room) #[(.ref ca), (.int 0), (.ref ds), (.int 0), (.int 3)] h0 (fun v h L => v = some (.int 0) ∧ Fr n0 L ∧ Keep h0 h [ds] ∧ Ars Z h ds .byte [(.int 0), (.int 0), (.int 0)]) := by
 refine Ctr.of (plainFor_of_name pn_3) (fun m => ef_c_cm5_3_0 m ca ds) ?_
 intro p e s m below meth c T0 hx hby hml hown hnm hret hlk hZ e0 X0
 have N0 := Fr.nil n0
 replace hown : s.vm.findClass "java/lang/StringUTF16" = some m.cls := hown
 replace hml : c.maxLocals = 7 := hml
 have KP := Keep.refl h0 [ds]
 refine Run.x_iconst (q := 1) X0 hx (hb hby d12_0) (z := (0 : Int32)) rfl rfl ?_
 refine Run.x_istore (q := 3) X0 hx #[.val (.ref ca), .val (.int 0), .val (.ref ds), .val (.int 0), .val (.int 3), .val (.int 0), .unset] (hb hby d12_1) rfl rfl ?_
 refine Run.x_iload (q := 5) X0 hx (hb hby d12_3) rfl rfl ?_
 refine Run.x_iload (q := 7) X0 hx (hb hby d12_5) rfl rfl ?_
 refine Run.x_icmpNo (q := 10) X0 hx (hb hby d12_7) (tlt (by decide : (0 : Int32) < (3 : Int32))).2.1 rfl ?_
 refine Run.x_aloadN (q := 11) X0 hx (hb hby d12_10) rfl rfl rfl ?_
 refine Run.x_iloadN (q := 12) X0 hx (hb hby d12_11) rfl rfl ?_
 refine Run.y_ldC (q := 13) X0 hx hZ e0 A_ca (i := 0) (v := (.int c0)) (by decide) rfl (hb hby d12_12) rfl ?_
 refine Run.x_istore (q := 15) X0 hx #[.val (.ref ca), .val (.int 0), .val (.ref ds), .val (.int 0), .val (.int 3), .val (.int 0), .val (.int c0)] (hb hby d12_13) rfl rfl ?_
 refine Run.x_iload (q := 17) X0 hx (hb hby d12_15) rfl rfl ?_
 refine Run.x_sipush (q := 20) X0 hx (hb hby d12_17) (z := (255 : Int32)) rfl rfl ?_
 refine Run.x_icmpNo (q := 23) X0 hx (hb hby d12_20) (tlt hg).2.2.2 rfl ?_
 refine Run.x_iload (q := 25) X0 hx (hb hby d12_23) rfl rfl ?_
 refine Run.retI X0 hx hlk e0 hret (hb hby d12_25) (by decide) (by decide) ?_
 exact ⟨rfl, N0, KP, A_ds⟩
theorem ef_c_cm5_3_1 (m : MethodId) (ca : Addr) (ds : Addr) : entryFrame m #[(.ref ca), (.int 0), (.ref ds), (.int 0), (.int 3)] 7 = mkF m 0 #[.val (.ref ca), .val (.int 0), .val (.ref ds), .val (.int 0), .val (.int 3), .unset, .unset] [] := by first | (simp [entryFrame, mkF, argsToLocals, Value.category]; done) | rfl
set_option maxRecDepth 65536 in
set_option maxHeartbeats 40000000 in
theorem c_cm5_3_1 (l : Launch) (Z : State) (a0 : Array Value) (hw : ∀ d ∈ tables_1, d.before a0 Z = true) (ca : Addr) (ds : Addr) (h0 : Heap) (n0 : Nat) (Z0 : n0 ≤ h0.size) (c0 : Int32) (c1 : Int32) (c2 : Int32) (A_ca : Ars Z h0 ca .char [(.int c0), (.int c1), (.int c2)]) (A_ds : Ars Z h0 ds .byte [(.int 0), (.int 0), (.int 0)]) (g_ds : n0 ≤ ds) (ne_ca_ds : ca ≠ ds) (hl0 : ¬ (255 : Int32) < c0) (hg : (255 : Int32) < c1) :
  Ctr l Z (⟨"java/lang/StringUTF16", "compress", "([CI[BII)I"⟩ : MethodName) jdk_52_method_21_code 7 (some .int) ({ frames := 0, cells := 0, slots := 0, locals := 0 } : Room) #[(.ref ca), (.int 0), (.ref ds), (.int 0), (.int 3)] h0 (fun v h L => v = some (.int 1) ∧ Fr n0 L ∧ Keep h0 h [ds] ∧ Ars Z h ds .byte [(.int c0.toInt8.toInt32), (.int 0), (.int 0)]) := by
 refine Ctr.of (plainFor_of_name pn_3) (fun m => ef_c_cm5_3_1 m ca ds) ?_
 intro p e s m below meth c T0 hx hby hml hown hnm hret hlk hZ e0 X0
 have N0 := Fr.nil n0
 replace hown : s.vm.findClass "java/lang/StringUTF16" = some m.cls := hown
 replace hml : c.maxLocals = 7 := hml
 have KP := Keep.refl h0 [ds]
 refine Run.x_iconst (q := 1) X0 hx (hb hby d12_0) (z := (0 : Int32)) rfl rfl ?_
 refine Run.x_istore (q := 3) X0 hx #[.val (.ref ca), .val (.int 0), .val (.ref ds), .val (.int 0), .val (.int 3), .val (.int 0), .unset] (hb hby d12_1) rfl rfl ?_
 refine Run.x_iload (q := 5) X0 hx (hb hby d12_3) rfl rfl ?_
 refine Run.x_iload (q := 7) X0 hx (hb hby d12_5) rfl rfl ?_
 refine Run.x_icmpNo (q := 10) X0 hx (hb hby d12_7) (tlt (by decide : (0 : Int32) < (3 : Int32))).2.1 rfl ?_
 refine Run.x_aloadN (q := 11) X0 hx (hb hby d12_10) rfl rfl rfl ?_
 refine Run.x_iloadN (q := 12) X0 hx (hb hby d12_11) rfl rfl ?_
 refine Run.y_ldC (q := 13) X0 hx hZ e0 A_ca (i := 0) (v := (.int c0)) (by decide) rfl (hb hby d12_12) rfl ?_
 refine Run.x_istore (q := 15) X0 hx #[.val (.ref ca), .val (.int 0), .val (.ref ds), .val (.int 0), .val (.int 3), .val (.int 0), .val (.int c0)] (hb hby d12_13) rfl rfl ?_
 refine Run.x_iload (q := 17) X0 hx (hb hby d12_15) rfl rfl ?_
 refine Run.x_sipush (q := 20) X0 hx (hb hby d12_17) (z := (255 : Int32)) rfl rfl ?_
 refine Run.x_icmpYes (q := 26) X0 hx (hb hby d12_20) (flt hl0).2.2.2 (by decide) (by decide) ?_
 refine Run.x_aloadN (q := 27) X0 hx (hb hby d12_26) rfl rfl rfl ?_
 refine Run.x_iloadN (q := 28) X0 hx (hb hby d12_27) rfl rfl ?_
 refine Run.x_iload (q := 30) X0 hx (hb hby d12_28) rfl rfl ?_
 refine Run.x_i2b (q := 31) X0 hx (hb hby d12_30) rfl rfl ?_
 refine Run.y_stB (q := 32) X0 hx hZ e0 A_ds (i := 0) (by decide) (Nat.le_of_ble_eq_true rfl) (z' := c0.toInt8.toInt32) (nar_b _) (hb hby d12_31) rfl fun T1 h1 X1 e1 W1 A1 => ?_
 replace A_ds : Ars Z h1 ds .byte [(.int c0.toInt8.toInt32), (.int 0), (.int 0)] := A1
 replace KP := KP.wr W1 (Or.inl (by simp))
 have N1 := Fr.snoc X1 N0 g_ds
 have Z1 : n0 ≤ h1.size := Nat.le_trans Z0 (Nat.le_of_eq W1.size.symm)
 refine Run.x_iinc (q := 35) X1 hx #[.val (.ref ca), .val (.int 1), .val (.ref ds), .val (.int 0), .val (.int 3), .val (.int 0), .val (.int c0)] (hb hby d12_32) rfl (z := (1 : Int32)) (by decide) rfl rfl ?_
 refine Run.x_iinc (q := 38) X1 hx #[.val (.ref ca), .val (.int 1), .val (.ref ds), .val (.int 1), .val (.int 3), .val (.int 0), .val (.int c0)] (hb hby d12_35) rfl (z := (1 : Int32)) (by decide) rfl rfl ?_
 refine Run.x_iinc (q := 41) X1 hx #[.val (.ref ca), .val (.int 1), .val (.ref ds), .val (.int 1), .val (.int 3), .val (.int 1), .val (.int c0)] (hb hby d12_38) rfl (z := (1 : Int32)) (by decide) rfl rfl ?_
 refine Run.x_goto (q := 3) X1 hx (hb hby d12_41) (by decide) (by decide) ?_
 refine Run.x_iload (q := 5) X1 hx (hb hby d12_3) rfl rfl ?_
 refine Run.x_iload (q := 7) X1 hx (hb hby d12_5) rfl rfl ?_
 refine Run.x_icmpNo (q := 10) X1 hx (hb hby d12_7) (tlt (by decide : (1 : Int32) < (3 : Int32))).2.1 rfl ?_
 refine Run.x_aloadN (q := 11) X1 hx (hb hby d12_10) rfl rfl rfl ?_
 refine Run.x_iloadN (q := 12) X1 hx (hb hby d12_11) rfl rfl ?_
 replace A_ca := A_ca.other W1 ne_ca_ds
 refine Run.y_ldC (q := 13) X1 hx hZ e1 A_ca (i := 1) (v := (.int c1)) (by decide) rfl (hb hby d12_12) rfl ?_
 refine Run.x_istore (q := 15) X1 hx #[.val (.ref ca), .val (.int 1), .val (.ref ds), .val (.int 1), .val (.int 3), .val (.int 1), .val (.int c1)] (hb hby d12_13) rfl rfl ?_
 refine Run.x_iload (q := 17) X1 hx (hb hby d12_15) rfl rfl ?_
 refine Run.x_sipush (q := 20) X1 hx (hb hby d12_17) (z := (255 : Int32)) rfl rfl ?_
 refine Run.x_icmpNo (q := 23) X1 hx (hb hby d12_20) (tlt hg).2.2.2 rfl ?_
 refine Run.x_iload (q := 25) X1 hx (hb hby d12_23) rfl rfl ?_
 refine Run.retI X1 hx hlk e1 hret (hb hby d12_25) (by decide) (by decide) ?_
 exact ⟨rfl, N1, KP, A_ds⟩
theorem ef_c_cm5_3_2 (m : MethodId) (ca : Addr) (ds : Addr) : entryFrame m #[(.ref ca), (.int 0), (.ref ds), (.int 0), (.int 3)] 7 = mkF m 0 #[.val (.ref ca), .val (.int 0), .val (.ref ds), .val (.int 0), .val (.int 3), .unset, .unset] [] := by first | (simp [entryFrame, mkF, argsToLocals, Value.category]; done) | rfl
set_option maxRecDepth 65536 in
set_option maxHeartbeats 40000000 in
theorem c_cm5_3_2 (l : Launch) (Z : State) (a0 : Array Value) (hw : ∀ d ∈ tables_1, d.before a0 Z = true) (ca : Addr) (ds : Addr) (h0 : Heap) (n0 : Nat) (Z0 : n0 ≤ h0.size) (c0 : Int32) (c1 : Int32) (c2 : Int32) (A_ca : Ars Z h0 ca .char [(.int c0), (.int c1), (.int c2)]) (A_ds : Ars Z h0 ds .byte [(.int 0), (.int 0), (.int 0)]) (g_ds : n0 ≤ ds) (ne_ca_ds : ca ≠ ds) (hl0 : ¬ (255 : Int32) < c0) (hl1 : ¬ (255 : Int32) < c1) (hg : (255 : Int32) < c2) :
  Ctr l Z (⟨"java/lang/StringUTF16", "compress", "([CI[BII)I"⟩ : MethodName) jdk_52_method_21_code 7 (some .int) ({ frames := 0, cells := 0, slots := 0, locals := 0 } : Room) #[(.ref ca), (.int 0), (.ref ds), (.int 0), (.int 3)] h0 (fun v h L => v = some (.int 2) ∧ Fr n0 L ∧ Keep h0 h [ds] ∧ Ars Z h ds .byte [(.int c0.toInt8.toInt32), (.int c1.toInt8.toInt32), (.int 0)]) := by
 refine Ctr.of (plainFor_of_name pn_3) (fun m => ef_c_cm5_3_2 m ca ds) ?_
 intro p e s m below meth c T0 hx hby hml hown hnm hret hlk hZ e0 X0
 have N0 := Fr.nil n0
 replace hown : s.vm.findClass "java/lang/StringUTF16" = some m.cls := hown
 replace hml : c.maxLocals = 7 := hml
 have KP := Keep.refl h0 [ds]
 refine Run.x_iconst (q := 1) X0 hx (hb hby d12_0) (z := (0 : Int32)) rfl rfl ?_
 refine Run.x_istore (q := 3) X0 hx #[.val (.ref ca), .val (.int 0), .val (.ref ds), .val (.int 0), .val (.int 3), .val (.int 0), .unset] (hb hby d12_1) rfl rfl ?_
 refine Run.x_iload (q := 5) X0 hx (hb hby d12_3) rfl rfl ?_
 refine Run.x_iload (q := 7) X0 hx (hb hby d12_5) rfl rfl ?_
 refine Run.x_icmpNo (q := 10) X0 hx (hb hby d12_7) (tlt (by decide : (0 : Int32) < (3 : Int32))).2.1 rfl ?_
 refine Run.x_aloadN (q := 11) X0 hx (hb hby d12_10) rfl rfl rfl ?_
 refine Run.x_iloadN (q := 12) X0 hx (hb hby d12_11) rfl rfl ?_
 refine Run.y_ldC (q := 13) X0 hx hZ e0 A_ca (i := 0) (v := (.int c0)) (by decide) rfl (hb hby d12_12) rfl ?_
 refine Run.x_istore (q := 15) X0 hx #[.val (.ref ca), .val (.int 0), .val (.ref ds), .val (.int 0), .val (.int 3), .val (.int 0), .val (.int c0)] (hb hby d12_13) rfl rfl ?_
 refine Run.x_iload (q := 17) X0 hx (hb hby d12_15) rfl rfl ?_
 refine Run.x_sipush (q := 20) X0 hx (hb hby d12_17) (z := (255 : Int32)) rfl rfl ?_
 refine Run.x_icmpYes (q := 26) X0 hx (hb hby d12_20) (flt hl0).2.2.2 (by decide) (by decide) ?_
 refine Run.x_aloadN (q := 27) X0 hx (hb hby d12_26) rfl rfl rfl ?_
 refine Run.x_iloadN (q := 28) X0 hx (hb hby d12_27) rfl rfl ?_
 refine Run.x_iload (q := 30) X0 hx (hb hby d12_28) rfl rfl ?_
 refine Run.x_i2b (q := 31) X0 hx (hb hby d12_30) rfl rfl ?_
 refine Run.y_stB (q := 32) X0 hx hZ e0 A_ds (i := 0) (by decide) (Nat.le_of_ble_eq_true rfl) (z' := c0.toInt8.toInt32) (nar_b _) (hb hby d12_31) rfl fun T1 h1 X1 e1 W1 A1 => ?_
 replace A_ds : Ars Z h1 ds .byte [(.int c0.toInt8.toInt32), (.int 0), (.int 0)] := A1
 replace KP := KP.wr W1 (Or.inl (by simp))
 have N1 := Fr.snoc X1 N0 g_ds
 have Z1 : n0 ≤ h1.size := Nat.le_trans Z0 (Nat.le_of_eq W1.size.symm)
 refine Run.x_iinc (q := 35) X1 hx #[.val (.ref ca), .val (.int 1), .val (.ref ds), .val (.int 0), .val (.int 3), .val (.int 0), .val (.int c0)] (hb hby d12_32) rfl (z := (1 : Int32)) (by decide) rfl rfl ?_
 refine Run.x_iinc (q := 38) X1 hx #[.val (.ref ca), .val (.int 1), .val (.ref ds), .val (.int 1), .val (.int 3), .val (.int 0), .val (.int c0)] (hb hby d12_35) rfl (z := (1 : Int32)) (by decide) rfl rfl ?_
 refine Run.x_iinc (q := 41) X1 hx #[.val (.ref ca), .val (.int 1), .val (.ref ds), .val (.int 1), .val (.int 3), .val (.int 1), .val (.int c0)] (hb hby d12_38) rfl (z := (1 : Int32)) (by decide) rfl rfl ?_
 refine Run.x_goto (q := 3) X1 hx (hb hby d12_41) (by decide) (by decide) ?_
 refine Run.x_iload (q := 5) X1 hx (hb hby d12_3) rfl rfl ?_
 refine Run.x_iload (q := 7) X1 hx (hb hby d12_5) rfl rfl ?_
 refine Run.x_icmpNo (q := 10) X1 hx (hb hby d12_7) (tlt (by decide : (1 : Int32) < (3 : Int32))).2.1 rfl ?_
 refine Run.x_aloadN (q := 11) X1 hx (hb hby d12_10) rfl rfl rfl ?_
 refine Run.x_iloadN (q := 12) X1 hx (hb hby d12_11) rfl rfl ?_
 replace A_ca := A_ca.other W1 ne_ca_ds
 refine Run.y_ldC (q := 13) X1 hx hZ e1 A_ca (i := 1) (v := (.int c1)) (by decide) rfl (hb hby d12_12) rfl ?_
 refine Run.x_istore (q := 15) X1 hx #[.val (.ref ca), .val (.int 1), .val (.ref ds), .val (.int 1), .val (.int 3), .val (.int 1), .val (.int c1)] (hb hby d12_13) rfl rfl ?_
 refine Run.x_iload (q := 17) X1 hx (hb hby d12_15) rfl rfl ?_
 refine Run.x_sipush (q := 20) X1 hx (hb hby d12_17) (z := (255 : Int32)) rfl rfl ?_
 refine Run.x_icmpYes (q := 26) X1 hx (hb hby d12_20) (flt hl1).2.2.2 (by decide) (by decide) ?_
 refine Run.x_aloadN (q := 27) X1 hx (hb hby d12_26) rfl rfl rfl ?_
 refine Run.x_iloadN (q := 28) X1 hx (hb hby d12_27) rfl rfl ?_
 refine Run.x_iload (q := 30) X1 hx (hb hby d12_28) rfl rfl ?_
 refine Run.x_i2b (q := 31) X1 hx (hb hby d12_30) rfl rfl ?_
 refine Run.y_stB (q := 32) X1 hx hZ e1 A_ds (i := 1) (by decide) (Nat.le_of_ble_eq_true rfl) (z' := c1.toInt8.toInt32) (nar_b _) (hb hby d12_31) rfl fun T2 h2 X2 e2 W2 A2 => ?_
 replace A_ds : Ars Z h2 ds .byte [(.int c0.toInt8.toInt32), (.int c1.toInt8.toInt32), (.int 0)] := A2
 replace KP := KP.wr W2 (Or.inl (by simp))
 have N2 := Fr.snoc X2 N1 g_ds
 have Z2 : n0 ≤ h2.size := Nat.le_trans Z1 (Nat.le_of_eq W2.size.symm)
 refine Run.x_iinc (q := 35) X2 hx #[.val (.ref ca), .val (.int 2), .val (.ref ds), .val (.int 1), .val (.int 3), .val (.int 1), .val (.int c1)] (hb hby d12_32) rfl (z := (2 : Int32)) (by decide) rfl rfl ?_
 refine Run.x_iinc (q := 38) X2 hx #[.val (.ref ca), .val (.int 2), .val (.ref ds), .val (.int 2), .val (.int 3), .val (.int 1), .val (.int c1)] (hb hby d12_35) rfl (z := (2 : Int32)) (by decide) rfl rfl ?_
 refine Run.x_iinc (q := 41) X2 hx #[.val (.ref ca), .val (.int 2), .val (.ref ds), .val (.int 2), .val (.int 3), .val (.int 2), .val (.int c1)] (hb hby d12_38) rfl (z := (2 : Int32)) (by decide) rfl rfl ?_
 refine Run.x_goto (q := 3) X2 hx (hb hby d12_41) (by decide) (by decide) ?_
 refine Run.x_iload (q := 5) X2 hx (hb hby d12_3) rfl rfl ?_
 refine Run.x_iload (q := 7) X2 hx (hb hby d12_5) rfl rfl ?_
 refine Run.x_icmpNo (q := 10) X2 hx (hb hby d12_7) (tlt (by decide : (2 : Int32) < (3 : Int32))).2.1 rfl ?_
 refine Run.x_aloadN (q := 11) X2 hx (hb hby d12_10) rfl rfl rfl ?_
 refine Run.x_iloadN (q := 12) X2 hx (hb hby d12_11) rfl rfl ?_
 replace A_ca := A_ca.other W2 ne_ca_ds
 refine Run.y_ldC (q := 13) X2 hx hZ e2 A_ca (i := 2) (v := (.int c2)) (by decide) rfl (hb hby d12_12) rfl ?_
 refine Run.x_istore (q := 15) X2 hx #[.val (.ref ca), .val (.int 2), .val (.ref ds), .val (.int 2), .val (.int 3), .val (.int 2), .val (.int c2)] (hb hby d12_13) rfl rfl ?_
 refine Run.x_iload (q := 17) X2 hx (hb hby d12_15) rfl rfl ?_
 refine Run.x_sipush (q := 20) X2 hx (hb hby d12_17) (z := (255 : Int32)) rfl rfl ?_
 refine Run.x_icmpNo (q := 23) X2 hx (hb hby d12_20) (tlt hg).2.2.2 rfl ?_
 refine Run.x_iload (q := 25) X2 hx (hb hby d12_23) rfl rfl ?_
 refine Run.retI X2 hx hlk e2 hret (hb hby d12_25) (by decide) (by decide) ?_
 exact ⟨rfl, N2, KP, A_ds⟩
theorem ef_c_cm5_3_3 (m : MethodId) (ca : Addr) (ds : Addr) : entryFrame m #[(.ref ca), (.int 0), (.ref ds), (.int 0), (.int 3)] 7 = mkF m 0 #[.val (.ref ca), .val (.int 0), .val (.ref ds), .val (.int 0), .val (.int 3), .unset, .unset] [] := by first | (simp [entryFrame, mkF, argsToLocals, Value.category]; done) | rfl
set_option maxRecDepth 65536 in
set_option maxHeartbeats 40000000 in
theorem c_cm5_3_3 (l : Launch) (Z : State) (a0 : Array Value) (hw : ∀ d ∈ tables_1, d.before a0 Z = true) (ca : Addr) (ds : Addr) (h0 : Heap) (n0 : Nat) (Z0 : n0 ≤ h0.size) (c0 : Int32) (c1 : Int32) (c2 : Int32) (A_ca : Ars Z h0 ca .char [(.int c0), (.int c1), (.int c2)]) (A_ds : Ars Z h0 ds .byte [(.int 0), (.int 0), (.int 0)]) (g_ds : n0 ≤ ds) (ne_ca_ds : ca ≠ ds) (hl0 : ¬ (255 : Int32) < c0) (hl1 : ¬ (255 : Int32) < c1) (hl2 : ¬ (255 : Int32) < c2) :
  Ctr l Z (⟨"java/lang/StringUTF16", "compress", "([CI[BII)I"⟩ : MethodName) jdk_52_method_21_code 7 (some .int) ({ frames := 0, cells := 0, slots := 0, locals := 0 } : Room) #[(.ref ca), (.int 0), (.ref ds), (.int 0), (.int 3)] h0 (fun v h L => v = some (.int 3) ∧ Fr n0 L ∧ Keep h0 h [ds] ∧ Ars Z h ds .byte [(.int c0.toInt8.toInt32), (.int c1.toInt8.toInt32), (.int c2.toInt8.toInt32)]) := by
 refine Ctr.of (plainFor_of_name pn_3) (fun m => ef_c_cm5_3_3 m ca ds) ?_
 intro p e s m below meth c T0 hx hby hml hown hnm hret hlk hZ e0 X0
 have N0 := Fr.nil n0
 replace hown : s.vm.findClass "java/lang/StringUTF16" = some m.cls := hown
 replace hml : c.maxLocals = 7 := hml
 have KP := Keep.refl h0 [ds]
 refine Run.x_iconst (q := 1) X0 hx (hb hby d12_0) (z := (0 : Int32)) rfl rfl ?_
 refine Run.x_istore (q := 3) X0 hx #[.val (.ref ca), .val (.int 0), .val (.ref ds), .val (.int 0), .val (.int 3), .val (.int 0), .unset] (hb hby d12_1) rfl rfl ?_
 refine Run.x_iload (q := 5) X0 hx (hb hby d12_3) rfl rfl ?_
 refine Run.x_iload (q := 7) X0 hx (hb hby d12_5) rfl rfl ?_
 refine Run.x_icmpNo (q := 10) X0 hx (hb hby d12_7) (tlt (by decide : (0 : Int32) < (3 : Int32))).2.1 rfl ?_
 refine Run.x_aloadN (q := 11) X0 hx (hb hby d12_10) rfl rfl rfl ?_
 refine Run.x_iloadN (q := 12) X0 hx (hb hby d12_11) rfl rfl ?_
 refine Run.y_ldC (q := 13) X0 hx hZ e0 A_ca (i := 0) (v := (.int c0)) (by decide) rfl (hb hby d12_12) rfl ?_
 refine Run.x_istore (q := 15) X0 hx #[.val (.ref ca), .val (.int 0), .val (.ref ds), .val (.int 0), .val (.int 3), .val (.int 0), .val (.int c0)] (hb hby d12_13) rfl rfl ?_
 refine Run.x_iload (q := 17) X0 hx (hb hby d12_15) rfl rfl ?_
 refine Run.x_sipush (q := 20) X0 hx (hb hby d12_17) (z := (255 : Int32)) rfl rfl ?_
 refine Run.x_icmpYes (q := 26) X0 hx (hb hby d12_20) (flt hl0).2.2.2 (by decide) (by decide) ?_
 refine Run.x_aloadN (q := 27) X0 hx (hb hby d12_26) rfl rfl rfl ?_
 refine Run.x_iloadN (q := 28) X0 hx (hb hby d12_27) rfl rfl ?_
 refine Run.x_iload (q := 30) X0 hx (hb hby d12_28) rfl rfl ?_
 refine Run.x_i2b (q := 31) X0 hx (hb hby d12_30) rfl rfl ?_
 refine Run.y_stB (q := 32) X0 hx hZ e0 A_ds (i := 0) (by decide) (Nat.le_of_ble_eq_true rfl) (z' := c0.toInt8.toInt32) (nar_b _) (hb hby d12_31) rfl fun T1 h1 X1 e1 W1 A1 => ?_
 replace A_ds : Ars Z h1 ds .byte [(.int c0.toInt8.toInt32), (.int 0), (.int 0)] := A1
 replace KP := KP.wr W1 (Or.inl (by simp))
 have N1 := Fr.snoc X1 N0 g_ds
 have Z1 : n0 ≤ h1.size := Nat.le_trans Z0 (Nat.le_of_eq W1.size.symm)
 refine Run.x_iinc (q := 35) X1 hx #[.val (.ref ca), .val (.int 1), .val (.ref ds), .val (.int 0), .val (.int 3), .val (.int 0), .val (.int c0)] (hb hby d12_32) rfl (z := (1 : Int32)) (by decide) rfl rfl ?_
 refine Run.x_iinc (q := 38) X1 hx #[.val (.ref ca), .val (.int 1), .val (.ref ds), .val (.int 1), .val (.int 3), .val (.int 0), .val (.int c0)] (hb hby d12_35) rfl (z := (1 : Int32)) (by decide) rfl rfl ?_
 refine Run.x_iinc (q := 41) X1 hx #[.val (.ref ca), .val (.int 1), .val (.ref ds), .val (.int 1), .val (.int 3), .val (.int 1), .val (.int c0)] (hb hby d12_38) rfl (z := (1 : Int32)) (by decide) rfl rfl ?_
 refine Run.x_goto (q := 3) X1 hx (hb hby d12_41) (by decide) (by decide) ?_
 refine Run.x_iload (q := 5) X1 hx (hb hby d12_3) rfl rfl ?_
 refine Run.x_iload (q := 7) X1 hx (hb hby d12_5) rfl rfl ?_
 refine Run.x_icmpNo (q := 10) X1 hx (hb hby d12_7) (tlt (by decide : (1 : Int32) < (3 : Int32))).2.1 rfl ?_
 refine Run.x_aloadN (q := 11) X1 hx (hb hby d12_10) rfl rfl rfl ?_
 refine Run.x_iloadN (q := 12) X1 hx (hb hby d12_11) rfl rfl ?_
 replace A_ca := A_ca.other W1 ne_ca_ds
 refine Run.y_ldC (q := 13) X1 hx hZ e1 A_ca (i := 1) (v := (.int c1)) (by decide) rfl (hb hby d12_12) rfl ?_
 refine Run.x_istore (q := 15) X1 hx #[.val (.ref ca), .val (.int 1), .val (.ref ds), .val (.int 1), .val (.int 3), .val (.int 1), .val (.int c1)] (hb hby d12_13) rfl rfl ?_
 refine Run.x_iload (q := 17) X1 hx (hb hby d12_15) rfl rfl ?_
 refine Run.x_sipush (q := 20) X1 hx (hb hby d12_17) (z := (255 : Int32)) rfl rfl ?_
 refine Run.x_icmpYes (q := 26) X1 hx (hb hby d12_20) (flt hl1).2.2.2 (by decide) (by decide) ?_
 refine Run.x_aloadN (q := 27) X1 hx (hb hby d12_26) rfl rfl rfl ?_
 refine Run.x_iloadN (q := 28) X1 hx (hb hby d12_27) rfl rfl ?_
 refine Run.x_iload (q := 30) X1 hx (hb hby d12_28) rfl rfl ?_
 refine Run.x_i2b (q := 31) X1 hx (hb hby d12_30) rfl rfl ?_
 refine Run.y_stB (q := 32) X1 hx hZ e1 A_ds (i := 1) (by decide) (Nat.le_of_ble_eq_true rfl) (z' := c1.toInt8.toInt32) (nar_b _) (hb hby d12_31) rfl fun T2 h2 X2 e2 W2 A2 => ?_
 replace A_ds : Ars Z h2 ds .byte [(.int c0.toInt8.toInt32), (.int c1.toInt8.toInt32), (.int 0)] := A2
 replace KP := KP.wr W2 (Or.inl (by simp))
 have N2 := Fr.snoc X2 N1 g_ds
 have Z2 : n0 ≤ h2.size := Nat.le_trans Z1 (Nat.le_of_eq W2.size.symm)
 refine Run.x_iinc (q := 35) X2 hx #[.val (.ref ca), .val (.int 2), .val (.ref ds), .val (.int 1), .val (.int 3), .val (.int 1), .val (.int c1)] (hb hby d12_32) rfl (z := (2 : Int32)) (by decide) rfl rfl ?_
 refine Run.x_iinc (q := 38) X2 hx #[.val (.ref ca), .val (.int 2), .val (.ref ds), .val (.int 2), .val (.int 3), .val (.int 1), .val (.int c1)] (hb hby d12_35) rfl (z := (2 : Int32)) (by decide) rfl rfl ?_
 refine Run.x_iinc (q := 41) X2 hx #[.val (.ref ca), .val (.int 2), .val (.ref ds), .val (.int 2), .val (.int 3), .val (.int 2), .val (.int c1)] (hb hby d12_38) rfl (z := (2 : Int32)) (by decide) rfl rfl ?_
 refine Run.x_goto (q := 3) X2 hx (hb hby d12_41) (by decide) (by decide) ?_
 refine Run.x_iload (q := 5) X2 hx (hb hby d12_3) rfl rfl ?_
 refine Run.x_iload (q := 7) X2 hx (hb hby d12_5) rfl rfl ?_
 refine Run.x_icmpNo (q := 10) X2 hx (hb hby d12_7) (tlt (by decide : (2 : Int32) < (3 : Int32))).2.1 rfl ?_
 refine Run.x_aloadN (q := 11) X2 hx (hb hby d12_10) rfl rfl rfl ?_
 refine Run.x_iloadN (q := 12) X2 hx (hb hby d12_11) rfl rfl ?_
 replace A_ca := A_ca.other W2 ne_ca_ds
 refine Run.y_ldC (q := 13) X2 hx hZ e2 A_ca (i := 2) (v := (.int c2)) (by decide) rfl (hb hby d12_12) rfl ?_
 refine Run.x_istore (q := 15) X2 hx #[.val (.ref ca), .val (.int 2), .val (.ref ds), .val (.int 2), .val (.int 3), .val (.int 2), .val (.int c2)] (hb hby d12_13) rfl rfl ?_
 refine Run.x_iload (q := 17) X2 hx (hb hby d12_15) rfl rfl ?_
 refine Run.x_sipush (q := 20) X2 hx (hb hby d12_17) (z := (255 : Int32)) rfl rfl ?_
 refine Run.x_icmpYes (q := 26) X2 hx (hb hby d12_20) (flt hl2).2.2.2 (by decide) (by decide) ?_
 refine Run.x_aloadN (q := 27) X2 hx (hb hby d12_26) rfl rfl rfl ?_
 refine Run.x_iloadN (q := 28) X2 hx (hb hby d12_27) rfl rfl ?_
 refine Run.x_iload (q := 30) X2 hx (hb hby d12_28) rfl rfl ?_
 refine Run.x_i2b (q := 31) X2 hx (hb hby d12_30) rfl rfl ?_
 refine Run.y_stB (q := 32) X2 hx hZ e2 A_ds (i := 2) (by decide) (Nat.le_of_ble_eq_true rfl) (z' := c2.toInt8.toInt32) (nar_b _) (hb hby d12_31) rfl fun T3 h3 X3 e3 W3 A3 => ?_
 replace A_ds : Ars Z h3 ds .byte [(.int c0.toInt8.toInt32), (.int c1.toInt8.toInt32), (.int c2.toInt8.toInt32)] := A3
 replace KP := KP.wr W3 (Or.inl (by simp))
 have N3 := Fr.snoc X3 N2 g_ds
 have Z3 : n0 ≤ h3.size := Nat.le_trans Z2 (Nat.le_of_eq W3.size.symm)
 refine Run.x_iinc (q := 35) X3 hx #[.val (.ref ca), .val (.int 3), .val (.ref ds), .val (.int 2), .val (.int 3), .val (.int 2), .val (.int c2)] (hb hby d12_32) rfl (z := (3 : Int32)) (by decide) rfl rfl ?_
 refine Run.x_iinc (q := 38) X3 hx #[.val (.ref ca), .val (.int 3), .val (.ref ds), .val (.int 3), .val (.int 3), .val (.int 2), .val (.int c2)] (hb hby d12_35) rfl (z := (3 : Int32)) (by decide) rfl rfl ?_
 refine Run.x_iinc (q := 41) X3 hx #[.val (.ref ca), .val (.int 3), .val (.ref ds), .val (.int 3), .val (.int 3), .val (.int 3), .val (.int c2)] (hb hby d12_38) rfl (z := (3 : Int32)) (by decide) rfl rfl ?_
 refine Run.x_goto (q := 3) X3 hx (hb hby d12_41) (by decide) (by decide) ?_
 refine Run.x_iload (q := 5) X3 hx (hb hby d12_3) rfl rfl ?_
 refine Run.x_iload (q := 7) X3 hx (hb hby d12_5) rfl rfl ?_
 refine Run.x_icmpYes (q := 44) X3 hx (hb hby d12_7) (flt (by decide : ¬ ((3 : Int32) < (3 : Int32)))).2.1 (by decide) (by decide) ?_
 refine Run.x_iload (q := 46) X3 hx (hb hby d12_44) rfl rfl ?_
 replace A_ca := A_ca.other W3 ne_ca_ds
 refine Run.retI X3 hx hlk e3 hret (hb hby d12_46) (by decide) (by decide) ?_
 exact ⟨rfl, N3, KP, A_ds⟩
theorem d13_0 : decode jdk_52_method_16_code 0 = .ok (.iload_n 2, 1) := by decide +kernel
theorem d13_1 : decode jdk_52_method_16_code 1 = .ok (.newarray .byte, 2) := by decide +kernel
theorem d13_3 : decode jdk_52_method_16_code 3 = .ok (.astore_n 3, 1) := by decide +kernel
theorem d13_4 : decode jdk_52_method_16_code 4 = .ok (.aload_n 0, 1) := by decide +kernel
theorem d13_5 : decode jdk_52_method_16_code 5 = .ok (.iload_n 1, 1) := by decide +kernel
theorem d13_6 : decode jdk_52_method_16_code 6 = .ok (.aload_n 3, 1) := by decide +kernel
theorem d13_7 : decode jdk_52_method_16_code 7 = .ok (.iconst 0, 1) := by decide +kernel
theorem d13_8 : decode jdk_52_method_16_code 8 = .ok (.iload_n 2, 1) := by decide +kernel
theorem d13_9 : decode jdk_52_method_16_code 9 = .ok (.invokestatic 115, 3) := by decide +kernel
theorem d13_12 : decode jdk_52_method_16_code 12 = .ok (.istore 4, 2) := by decide +kernel
theorem d13_14 : decode jdk_52_method_16_code 14 = .ok (.iload 4, 2) := by decide +kernel
theorem d13_16 : decode jdk_52_method_16_code 16 = .ok (.iload_n 2, 1) := by decide +kernel
theorem d13_17 : decode jdk_52_method_16_code 17 = .ok (.if_icmp .eq 40, 3) := by decide +kernel
theorem d13_20 : decode jdk_52_method_16_code 20 = .ok (.aload_n 0, 1) := by decide +kernel
theorem d13_21 : decode jdk_52_method_16_code 21 = .ok (.iload_n 1, 1) := by decide +kernel
theorem d13_22 : decode jdk_52_method_16_code 22 = .ok (.iload_n 2, 1) := by decide +kernel
theorem d13_23 : decode jdk_52_method_16_code 23 = .ok (.invokestatic 119, 3) := by decide +kernel
theorem d13_26 : decode jdk_52_method_16_code 26 = .ok (.astore 5, 2) := by decide +kernel
theorem d13_28 : decode jdk_52_method_16_code 28 = .ok (.aload 5, 2) := by decide +kernel
theorem d13_30 : decode jdk_52_method_16_code 30 = .ok (.iload 4, 2) := by decide +kernel
theorem d13_32 : decode jdk_52_method_16_code 32 = .ok (.invokestatic 71, 3) := by decide +kernel
theorem d13_35 : decode jdk_52_method_16_code 35 = .ok (.sipush 255, 3) := by decide +kernel
theorem d13_38 : decode jdk_52_method_16_code 38 = .ok (.if_icmp .gt 16, 3) := by decide +kernel
theorem d13_41 : decode jdk_52_method_16_code 41 = .ok (.aload 5, 2) := by decide +kernel
theorem d13_43 : decode jdk_52_method_16_code 43 = .ok (.iconst 0, 1) := by decide +kernel
theorem d13_44 : decode jdk_52_method_16_code 44 = .ok (.aload_n 3, 1) := by decide +kernel
theorem d13_45 : decode jdk_52_method_16_code 45 = .ok (.iconst 0, 1) := by decide +kernel
theorem d13_46 : decode jdk_52_method_16_code 46 = .ok (.iload_n 2, 1) := by decide +kernel
theorem d13_47 : decode jdk_52_method_16_code 47 = .ok (.invokestatic 123, 3) := by decide +kernel
theorem d13_50 : decode jdk_52_method_16_code 50 = .ok (.iload_n 2, 1) := by decide +kernel
theorem d13_51 : decode jdk_52_method_16_code 51 = .ok (.if_icmp .eq 6, 3) := by decide +kernel
theorem d13_54 : decode jdk_52_method_16_code 54 = .ok (.aload 5, 2) := by decide +kernel
theorem d13_56 : decode jdk_52_method_16_code 56 = .ok (.areturn, 1) := by decide +kernel
theorem d13_57 : decode jdk_52_method_16_code 57 = .ok (.aload_n 3, 1) := by decide +kernel
theorem d13_58 : decode jdk_52_method_16_code 58 = .ok (.areturn, 1) := by decide +kernel
theorem ef_c_cm3_1_0 (m : MethodId) (ca : Addr) : entryFrame m #[(.ref ca), (.int 0), (.int 1)] 6 = mkF m 0 #[.val (.ref ca), .val (.int 0), .val (.int 1), .unset, .unset, .unset] [] := by first | (simp [entryFrame, mkF, argsToLocals, Value.category]; done) | rfl
theorem wm25 {a0 : Array Value} {Z : State} (hw : ∀ d ∈ tables_1, d.before a0 Z = true) : (Jvm.Cond.methodLink "java/lang/StringUTF16" (115 : Nat) ({ cls := "java/lang/StringUTF16", name := "compress", desc := "([CI[BII)I" } : Jvm.MethodName)).before a0 Z = true := hw _ (List.mem_of_getElem? (i := 25) rfl)
theorem wm27 {a0 : Array Value} {Z : State} (hw : ∀ d ∈ tables_1, d.before a0 Z = true) : (Jvm.Cond.code ({ cls := "java/lang/StringUTF16", name := "compress", desc := "([CI[BII)I" } : Jvm.MethodName) jdk_52_method_21_code (7 : Nat) (Option.some Jvm.ClassFile.FieldType.int)).before a0 Z = true := hw _ (List.mem_of_getElem? (i := 27) rfl)
theorem pd_8 : parseMethodDescriptor "([CI[BII)I" = some ⟨[(.array .char), .int, (.array .byte), .int, .int], some .int⟩ := by decide +kernel
theorem wm26 {a0 : Array Value} {Z : State} (hw : ∀ d ∈ tables_1, d.before a0 Z = true) : (Jvm.Cond.static ({ cls := "java/lang/StringUTF16", name := "compress", desc := "([CI[BII)I" } : Jvm.MethodName)).before a0 Z = true := hw _ (List.mem_of_getElem? (i := 26) rfl)
set_option maxRecDepth 65536 in
set_option maxHeartbeats 40000000 in
theorem c_cm3_1_0 (l : Launch) (Z : State) (a0 : Array Value) (hw : ∀ d ∈ tables_1, d.before a0 Z = true) (ca : Addr) (h0 : Heap) (n0 : Nat) (Z0 : n0 ≤ h0.size) (c0 : Int32) (A_ca : Ars Z h0 ca .char [(.int c0)]) (ha0 : ¬ (255 : Int32) < c0) (hr0 : 0 ≤ c0.toInt ∧ c0.toInt < 65536) :
  Ctr l Z (⟨"java/lang/StringUTF16", "compress", "([CII)[B"⟩ : MethodName) jdk_52_method_16_code 6 (some (.array .byte)) ({ frames := 1, cells := 1, slots := 1, locals := 18 } : Room) #[(.ref ca), (.int 0), (.int 1)] h0 (fun v h L => ∃ b : Addr, v = some (.ref b) ∧ Fr n0 L ∧ Keep h0 h [] ∧ h0.size ≤ b ∧ Ars Z h b .byte [(.int c0.toInt8.toInt32)]) := by
 refine Ctr.of (plainFor_of_name pn_3) (fun m => ef_c_cm3_1_0 m ca) ?_
 intro p e s m below meth c T0 hx hby hml hown hnm hret hlk hZ e0 X0
 have N0 := Fr.nil n0
 replace hown : s.vm.findClass "java/lang/StringUTF16" = some m.cls := hown
 replace hml : c.maxLocals = 6 := hml
 have KP := Keep.refl h0 []
 refine Run.x_iloadN (q := 1) X0 hx (hb hby d13_0) rfl rfl ?_
 refine Run.newP (aty := .byte) X0 hx hZ e0 (wm24 hw) (hb hby d13_1) (len := 1) (by decide) (by decide) (cap := 1) (by decide) (by decide) (by decide) (by decide) ?_
 intro T1 h1 b1 gg1 X1 e1 E1 A_b1
 have g_b1 : n0 ≤ b1 := Nat.le_trans Z0 (Nat.le_of_eq gg1.symm)
 have ne_ca_b1 : ca ≠ b1 := Nat.ne_of_lt (Nat.lt_of_lt_of_le A_ca.lt (Nat.le_of_eq gg1.symm))
 have sz_b1 : h0.size ≤ b1 := Nat.le_trans KP.1 (Nat.le_of_eq gg1.symm)
 have Z1 : n0 ≤ h1.size := Nat.le_trans Z0 E1.1
 replace KP := KP.ext E1
 replace A_b1 : Ars Z h1 b1 .byte [(.int 0)] := A_b1
 show Run p e below s _ _ _ (T1.setTop (mkF m 3 #[.val (.ref ca), .val (.int 0), .val (.int 1), .unset, .unset, .unset] [(.ref b1)]))
 refine Run.x_astoreN (q := 4) X1 hx #[.val (.ref ca), .val (.int 0), .val (.int 1), .val (.ref b1), .unset, .unset] (hb hby d13_3) rfl rfl rfl ?_
 refine Run.x_aloadN (q := 5) X1 hx (hb hby d13_4) rfl rfl rfl ?_
 refine Run.x_iloadN (q := 6) X1 hx (hb hby d13_5) rfl rfl ?_
 refine Run.x_aloadN (q := 7) X1 hx (hb hby d13_6) rfl rfl rfl ?_
 refine Run.x_iconst (q := 8) X1 hx (hb hby d13_7) (z := (0 : Int32)) rfl rfl ?_
 refine Run.x_iloadN (q := 9) X1 hx (hb hby d13_8) rfl rfl ?_
 replace A_ca := A_ca.ext E1
 refine Run.callS X1 hx hZ e1 (y := (⟨"java/lang/StringUTF16", "compress", "([CI[BII)I"⟩ : MethodName)) hown (wm25 hw) (wm26 hw) (wm22 hw) (wm27 hw) (by decide) (argsL := [(.ref ca), (.int 0), (.ref b1), (.int 0), (.int 1)]) (rest := []) (c_cm5_1_1 l Z a0 hw ca b1 h1 n0 Z1 c0 A_ca A_b1 g_b1 ne_ca_b1 ha0) pd_8 rfl (by rw [hml]; rfl) (W := 0) rfl (by decide) (by decide) (by decide) (by decide) (hb hby d13_9) rfl ?_
 intro T2 v2 L2 X2 q2
 obtain ⟨rfl, M2, K2, Ad2⟩ := q2
 have N2 := Fr.app N0 M2
 show Run p e below s _ _ _ (T2.setTop (mkF m 12 #[.val (.ref ca), .val (.int 0), .val (.int 1), .val (.ref b1), .unset, .unset] [(.int 1)]))
 have Z2 : n0 ≤ T2.heap.size := Nat.le_trans Z1 K2.1
 replace KP := KP.trans K2 (allS (Or.inr sz_b1) all0)
 refine Run.x_istore (q := 14) X2 hx #[.val (.ref ca), .val (.int 0), .val (.int 1), .val (.ref b1), .val (.int 1), .unset] (hb hby d13_12) rfl rfl ?_
 refine Run.x_iload (q := 16) X2 hx (hb hby d13_14) rfl rfl ?_
 refine Run.x_iloadN (q := 17) X2 hx (hb hby d13_16) rfl rfl ?_
 refine Run.x_icmpYes (q := 57) X2 hx (hb hby d13_17) (teq (by decide : (1 : Int32) = (1 : Int32))).1 (by decide) (by decide) ?_
 refine Run.x_aloadN (q := 58) X2 hx (hb hby d13_57) rfl rfl rfl ?_
 replace A_ca := A_ca.keep K2 (ninS ne_ca_b1 nin0)
 refine Run.retA X2 hx hlk rfl (t := (.array .byte)) hret rfl rfl rfl (hb hby d13_58) (by decide) (by decide) ?_
 exact ⟨b1, rfl, N2, KP, sz_b1, Ad2⟩
theorem ef_c_cm3_1_1 (m : MethodId) (ca : Addr) : entryFrame m #[(.ref ca), (.int 0), (.int 1)] 6 = mkF m 0 #[.val (.ref ca), .val (.int 0), .val (.int 1), .unset, .unset, .unset] [] := by first | (simp [entryFrame, mkF, argsToLocals, Value.category]; done) | rfl
theorem wm85 {a0 : Array Value} {Z : State} (hw : ∀ d ∈ tables_1, d.before a0 Z = true) : (Jvm.Cond.methodLink "java/lang/StringUTF16" (119 : Nat) ({ cls := "java/lang/StringUTF16", name := "toBytes", desc := "([CII)[B" } : Jvm.MethodName)).before a0 Z = true := hw _ (List.mem_of_getElem? (i := 85) rfl)
theorem wm87 {a0 : Array Value} {Z : State} (hw : ∀ d ∈ tables_1, d.before a0 Z = true) : (Jvm.Cond.code ({ cls := "java/lang/StringUTF16", name := "toBytes", desc := "([CII)[B" } : Jvm.MethodName) jdk_52_method_14_code (5 : Nat) (Option.some (Jvm.ClassFile.FieldType.array Jvm.ClassFile.FieldType.byte))).before a0 Z = true := hw _ (List.mem_of_getElem? (i := 87) rfl)
theorem pd_9 : parseMethodDescriptor "([CII)[B" = some ⟨[(.array .char), .int, .int], some (.array .byte)⟩ := by decide +kernel
theorem wm86 {a0 : Array Value} {Z : State} (hw : ∀ d ∈ tables_1, d.before a0 Z = true) : (Jvm.Cond.static ({ cls := "java/lang/StringUTF16", name := "toBytes", desc := "([CII)[B" } : Jvm.MethodName)).before a0 Z = true := hw _ (List.mem_of_getElem? (i := 86) rfl)
set_option maxRecDepth 65536 in
set_option maxHeartbeats 40000000 in
theorem c_cm3_1_1 (l : Launch) (Z : State) (a0 : Array Value) (hw : ∀ d ∈ tables_1, d.before a0 Z = true) (ca : Addr) (h0 : Heap) (n0 : Nat) (Z0 : n0 ≤ h0.size) (c0 : Int32) (A_ca : Ars Z h0 ca .char [(.int c0)]) (S__assertionsDisabled : Sta Z h0 "java/lang/StringUTF16" "$assertionsDisabled" "Z" (.int 1)) (S_HI_BYTE_SHIFT : Sta Z h0 "java/lang/StringUTF16" "HI_BYTE_SHIFT" "I" (.int 0)) (S_LO_BYTE_SHIFT : Sta Z h0 "java/lang/StringUTF16" "LO_BYTE_SHIFT" "I" (.int 8)) (ha : (255 : Int32) < c0) (hr0 : 0 ≤ c0.toInt ∧ c0.toInt < 65536) :
  Ctr l Z (⟨"java/lang/StringUTF16", "compress", "([CII)[B"⟩ : MethodName) jdk_52_method_16_code 6 (some (.array .byte)) ({ frames := 3, cells := 2, slots := 3, locals := 40 } : Room) #[(.ref ca), (.int 0), (.int 1)] h0 (fun v h L => ∃ b : Addr, v = some (.ref b) ∧ Fr n0 L ∧ Keep h0 h [] ∧ h0.size ≤ b ∧ Ars Z h b .byte [(.int (c0 >>> ((0 : Int32) &&& 31)).toInt8.toInt32), (.int (c0 >>> ((8 : Int32) &&& 31)).toInt8.toInt32)]) := by
 refine Ctr.of (plainFor_of_name pn_3) (fun m => ef_c_cm3_1_1 m ca) ?_
 intro p e s m below meth c T0 hx hby hml hown hnm hret hlk hZ e0 X0
 have N0 := Fr.nil n0
 replace hown : s.vm.findClass "java/lang/StringUTF16" = some m.cls := hown
 replace hml : c.maxLocals = 6 := hml
 have KP := Keep.refl h0 []
 refine Run.x_iloadN (q := 1) X0 hx (hb hby d13_0) rfl rfl ?_
 refine Run.newP (aty := .byte) X0 hx hZ e0 (wm24 hw) (hb hby d13_1) (len := 1) (by decide) (by decide) (cap := 1) (by decide) (by decide) (by decide) (by decide) ?_
 intro T1 h1 b1 gg1 X1 e1 E1 A_b1
 have g_b1 : n0 ≤ b1 := Nat.le_trans Z0 (Nat.le_of_eq gg1.symm)
 have ne_ca_b1 : ca ≠ b1 := Nat.ne_of_lt (Nat.lt_of_lt_of_le A_ca.lt (Nat.le_of_eq gg1.symm))
 have sz_b1 : h0.size ≤ b1 := Nat.le_trans KP.1 (Nat.le_of_eq gg1.symm)
 have Z1 : n0 ≤ h1.size := Nat.le_trans Z0 E1.1
 replace KP := KP.ext E1
 replace A_b1 : Ars Z h1 b1 .byte [(.int 0)] := A_b1
 show Run p e below s _ _ _ (T1.setTop (mkF m 3 #[.val (.ref ca), .val (.int 0), .val (.int 1), .unset, .unset, .unset] [(.ref b1)]))
 refine Run.x_astoreN (q := 4) X1 hx #[.val (.ref ca), .val (.int 0), .val (.int 1), .val (.ref b1), .unset, .unset] (hb hby d13_3) rfl rfl rfl ?_
 refine Run.x_aloadN (q := 5) X1 hx (hb hby d13_4) rfl rfl rfl ?_
 refine Run.x_iloadN (q := 6) X1 hx (hb hby d13_5) rfl rfl ?_
 refine Run.x_aloadN (q := 7) X1 hx (hb hby d13_6) rfl rfl rfl ?_
 refine Run.x_iconst (q := 8) X1 hx (hb hby d13_7) (z := (0 : Int32)) rfl rfl ?_
 refine Run.x_iloadN (q := 9) X1 hx (hb hby d13_8) rfl rfl ?_
 have hg := ha
 replace A_ca := A_ca.ext E1
 refine Run.callS X1 hx hZ e1 (y := (⟨"java/lang/StringUTF16", "compress", "([CI[BII)I"⟩ : MethodName)) hown (wm25 hw) (wm26 hw) (wm22 hw) (wm27 hw) (by decide) (argsL := [(.ref ca), (.int 0), (.ref b1), (.int 0), (.int 1)]) (rest := []) (c_cm5_1_0 l Z a0 hw ca b1 h1 n0 Z1 c0 A_ca A_b1 g_b1 ne_ca_b1 hg) pd_8 rfl (by rw [hml]; rfl) (W := 0) rfl (by decide) (by decide) (by decide) (by decide) (hb hby d13_9) rfl ?_
 intro T2 v2 L2 X2 q2
 obtain ⟨rfl, M2, K2, Ad2⟩ := q2
 have N2 := Fr.app N0 M2
 show Run p e below s _ _ _ (T2.setTop (mkF m 12 #[.val (.ref ca), .val (.int 0), .val (.int 1), .val (.ref b1), .unset, .unset] [(.int 0)]))
 replace S__assertionsDisabled := S__assertionsDisabled.ext E1
 replace S__assertionsDisabled := Sta_keep S__assertionsDisabled K2 (allS A_b1.ns all0)
 replace S_HI_BYTE_SHIFT := S_HI_BYTE_SHIFT.ext E1
 replace S_HI_BYTE_SHIFT := Sta_keep S_HI_BYTE_SHIFT K2 (allS A_b1.ns all0)
 replace S_LO_BYTE_SHIFT := S_LO_BYTE_SHIFT.ext E1
 replace S_LO_BYTE_SHIFT := Sta_keep S_LO_BYTE_SHIFT K2 (allS A_b1.ns all0)
 have Z2 : n0 ≤ T2.heap.size := Nat.le_trans Z1 K2.1
 replace KP := KP.trans K2 (allS (Or.inr sz_b1) all0)
 refine Run.x_istore (q := 14) X2 hx #[.val (.ref ca), .val (.int 0), .val (.int 1), .val (.ref b1), .val (.int 0), .unset] (hb hby d13_12) rfl rfl ?_
 refine Run.x_iload (q := 16) X2 hx (hb hby d13_14) rfl rfl ?_
 refine Run.x_iloadN (q := 17) X2 hx (hb hby d13_16) rfl rfl ?_
 refine Run.x_icmpNo (q := 20) X2 hx (hb hby d13_17) (feq (by decide : ¬ ((0 : Int32) = (1 : Int32)))).1 rfl ?_
 refine Run.x_aloadN (q := 21) X2 hx (hb hby d13_20) rfl rfl rfl ?_
 refine Run.x_iloadN (q := 22) X2 hx (hb hby d13_21) rfl rfl ?_
 refine Run.x_iloadN (q := 23) X2 hx (hb hby d13_22) rfl rfl ?_
 replace A_ca := A_ca.keep K2 (ninS ne_ca_b1 nin0)
 refine Run.callS X2 hx hZ rfl (y := (⟨"java/lang/StringUTF16", "toBytes", "([CII)[B"⟩ : MethodName)) hown (wm85 hw) (wm86 hw) (wm22 hw) (wm87 hw) (by decide) (argsL := [(.ref ca), (.int 0), (.int 1)]) (rest := []) (c_tob1 l Z a0 hw ca T2.heap n0 Z2 c0 A_ca S__assertionsDisabled S_HI_BYTE_SHIFT S_LO_BYTE_SHIFT) pd_9 rfl (by rw [hml]; rfl) (W := 0) rfl (by decide) (by decide) (by decide) (by decide) (hb hby d13_23) rfl ?_
 intro T3 v3 L3 X3 q3
 obtain ⟨np3, rfl, M3, K3, sz3, An3⟩ := q3
 have N3 := Fr.app N2 M3
 show Run p e below s _ _ _ (T3.setTop (mkF m 26 #[.val (.ref ca), .val (.int 0), .val (.int 1), .val (.ref b1), .val (.int 0), .unset] [(.ref np3)]))
 have ne_ca_np3 : ca ≠ np3 := Nat.ne_of_lt (Nat.lt_of_lt_of_le A_ca.lt sz3)
 have ne_b1_np3 : b1 ≠ np3 := Nat.ne_of_lt (Nat.lt_of_lt_of_le Ad2.lt sz3)
 have g_np3 : n0 ≤ np3 := Nat.le_trans Z2 sz3
 have sz_np3 : h0.size ≤ np3 := Nat.le_trans KP.1 sz3
 replace S__assertionsDisabled := Sta_keep S__assertionsDisabled K3 all0
 replace S_HI_BYTE_SHIFT := Sta_keep S_HI_BYTE_SHIFT K3 all0
 replace S_LO_BYTE_SHIFT := Sta_keep S_LO_BYTE_SHIFT K3 all0
 have Z3 : n0 ≤ T3.heap.size := Nat.le_trans Z2 K3.1
 replace KP := KP.trans K3 all0
 refine Run.x_astore (q := 28) X3 hx #[.val (.ref ca), .val (.int 0), .val (.int 1), .val (.ref b1), .val (.int 0), .val (.ref np3)] (hb hby d13_26) rfl rfl rfl ?_
 refine Run.x_aload (q := 30) X3 hx (hb hby d13_28) rfl rfl rfl ?_
 refine Run.x_iload (q := 32) X3 hx (hb hby d13_30) rfl rfl ?_
 refine Run.callSI (q := 35) X3 hx hZ rfl (y := (⟨"java/lang/StringUTF16", "getChar", "([BI)C"⟩ : MethodName)) hown (wm101 hw) (wm102 hw) (wm22 hw) (wm103 hw) (by decide) (argsL := [(.ref np3), (.int 0)]) (rest := []) (c_get l Z a0 hw np3 (0 : Int32) T3.heap n0 Z3 [(.int (c0 >>> ((0 : Int32) &&& 31)).toInt8.toInt32), (.int (c0 >>> ((8 : Int32) &&& 31)).toInt8.toInt32)] 0 (c0 >>> ((0 : Int32) &&& 31)).toInt8.toInt32 (c0 >>> ((8 : Int32) &&& 31)).toInt8.toInt32 c0 An3 S__assertionsDisabled S_HI_BYTE_SHIFT S_LO_BYTE_SHIFT (by decide) (by decide) rfl rfl (own_utf hr0)) pd_4 rfl (by rw [hml]; rfl) (W := 0) rfl (by decide) (by decide) (by decide) (by decide) (hb hby d13_32) rfl rfl fun T4 L4 X4 M4 e4 => ?_
 have N4 := Fr.app N3 M4
 refine Run.x_sipush (q := 38) X4 hx (hb hby d13_35) (z := (255 : Int32)) rfl rfl ?_
 refine Run.x_icmpYes (q := 54) X4 hx (hb hby d13_38) (tlt hg).2.2.1 (by decide) (by decide) ?_
 refine Run.x_aload (q := 56) X4 hx (hb hby d13_54) rfl rfl rfl ?_
 replace A_ca := A_ca.keep K3 nin0
 replace Ad2 := Ad2.keep K3 nin0
 refine Run.retA X4 hx hlk e4 (t := (.array .byte)) hret rfl rfl rfl (hb hby d13_56) (by decide) (by decide) ?_
 exact ⟨np3, rfl, N4, KP, sz_np3, An3⟩
theorem ef_c_cm3_2_0 (m : MethodId) (ca : Addr) : entryFrame m #[(.ref ca), (.int 0), (.int 2)] 6 = mkF m 0 #[.val (.ref ca), .val (.int 0), .val (.int 2), .unset, .unset, .unset] [] := by first | (simp [entryFrame, mkF, argsToLocals, Value.category]; done) | rfl
set_option maxRecDepth 65536 in
set_option maxHeartbeats 40000000 in
theorem c_cm3_2_0 (l : Launch) (Z : State) (a0 : Array Value) (hw : ∀ d ∈ tables_1, d.before a0 Z = true) (ca : Addr) (h0 : Heap) (n0 : Nat) (Z0 : n0 ≤ h0.size) (c0 : Int32) (c1 : Int32) (A_ca : Ars Z h0 ca .char [(.int c0), (.int c1)]) (ha0 : ¬ (255 : Int32) < c0) (ha1 : ¬ (255 : Int32) < c1) (hr0 : 0 ≤ c0.toInt ∧ c0.toInt < 65536) (hr1 : 0 ≤ c1.toInt ∧ c1.toInt < 65536) :
  Ctr l Z (⟨"java/lang/StringUTF16", "compress", "([CII)[B"⟩ : MethodName) jdk_52_method_16_code 6 (some (.array .byte)) ({ frames := 1, cells := 1, slots := 2, locals := 18 } : Room) #[(.ref ca), (.int 0), (.int 2)] h0 (fun v h L => ∃ b : Addr, v = some (.ref b) ∧ Fr n0 L ∧ Keep h0 h [] ∧ h0.size ≤ b ∧ Ars Z h b .byte [(.int c0.toInt8.toInt32), (.int c1.toInt8.toInt32)]) := by
 refine Ctr.of (plainFor_of_name pn_3) (fun m => ef_c_cm3_2_0 m ca) ?_
 intro p e s m below meth c T0 hx hby hml hown hnm hret hlk hZ e0 X0
 have N0 := Fr.nil n0
 replace hown : s.vm.findClass "java/lang/StringUTF16" = some m.cls := hown
 replace hml : c.maxLocals = 6 := hml
 have KP := Keep.refl h0 []
 refine Run.x_iloadN (q := 1) X0 hx (hb hby d13_0) rfl rfl ?_
 refine Run.newP (aty := .byte) X0 hx hZ e0 (wm24 hw) (hb hby d13_1) (len := 2) (by decide) (by decide) (cap := 2) (by decide) (by decide) (by decide) (by decide) ?_
 intro T1 h1 b1 gg1 X1 e1 E1 A_b1
 have g_b1 : n0 ≤ b1 := Nat.le_trans Z0 (Nat.le_of_eq gg1.symm)
 have ne_ca_b1 : ca ≠ b1 := Nat.ne_of_lt (Nat.lt_of_lt_of_le A_ca.lt (Nat.le_of_eq gg1.symm))
 have sz_b1 : h0.size ≤ b1 := Nat.le_trans KP.1 (Nat.le_of_eq gg1.symm)
 have Z1 : n0 ≤ h1.size := Nat.le_trans Z0 E1.1
 replace KP := KP.ext E1
 replace A_b1 : Ars Z h1 b1 .byte [(.int 0), (.int 0)] := A_b1
 show Run p e below s _ _ _ (T1.setTop (mkF m 3 #[.val (.ref ca), .val (.int 0), .val (.int 2), .unset, .unset, .unset] [(.ref b1)]))
 refine Run.x_astoreN (q := 4) X1 hx #[.val (.ref ca), .val (.int 0), .val (.int 2), .val (.ref b1), .unset, .unset] (hb hby d13_3) rfl rfl rfl ?_
 refine Run.x_aloadN (q := 5) X1 hx (hb hby d13_4) rfl rfl rfl ?_
 refine Run.x_iloadN (q := 6) X1 hx (hb hby d13_5) rfl rfl ?_
 refine Run.x_aloadN (q := 7) X1 hx (hb hby d13_6) rfl rfl rfl ?_
 refine Run.x_iconst (q := 8) X1 hx (hb hby d13_7) (z := (0 : Int32)) rfl rfl ?_
 refine Run.x_iloadN (q := 9) X1 hx (hb hby d13_8) rfl rfl ?_
 replace A_ca := A_ca.ext E1
 refine Run.callS X1 hx hZ e1 (y := (⟨"java/lang/StringUTF16", "compress", "([CI[BII)I"⟩ : MethodName)) hown (wm25 hw) (wm26 hw) (wm22 hw) (wm27 hw) (by decide) (argsL := [(.ref ca), (.int 0), (.ref b1), (.int 0), (.int 2)]) (rest := []) (c_cm5_2_2 l Z a0 hw ca b1 h1 n0 Z1 c0 c1 A_ca A_b1 g_b1 ne_ca_b1 ha0 ha1) pd_8 rfl (by rw [hml]; rfl) (W := 0) rfl (by decide) (by decide) (by decide) (by decide) (hb hby d13_9) rfl ?_
 intro T2 v2 L2 X2 q2
 obtain ⟨rfl, M2, K2, Ad2⟩ := q2
 have N2 := Fr.app N0 M2
 show Run p e below s _ _ _ (T2.setTop (mkF m 12 #[.val (.ref ca), .val (.int 0), .val (.int 2), .val (.ref b1), .unset, .unset] [(.int 2)]))
 have Z2 : n0 ≤ T2.heap.size := Nat.le_trans Z1 K2.1
 replace KP := KP.trans K2 (allS (Or.inr sz_b1) all0)
 refine Run.x_istore (q := 14) X2 hx #[.val (.ref ca), .val (.int 0), .val (.int 2), .val (.ref b1), .val (.int 2), .unset] (hb hby d13_12) rfl rfl ?_
 refine Run.x_iload (q := 16) X2 hx (hb hby d13_14) rfl rfl ?_
 refine Run.x_iloadN (q := 17) X2 hx (hb hby d13_16) rfl rfl ?_
 refine Run.x_icmpYes (q := 57) X2 hx (hb hby d13_17) (teq (by decide : (2 : Int32) = (2 : Int32))).1 (by decide) (by decide) ?_
 refine Run.x_aloadN (q := 58) X2 hx (hb hby d13_57) rfl rfl rfl ?_
 replace A_ca := A_ca.keep K2 (ninS ne_ca_b1 nin0)
 refine Run.retA X2 hx hlk rfl (t := (.array .byte)) hret rfl rfl rfl (hb hby d13_58) (by decide) (by decide) ?_
 exact ⟨b1, rfl, N2, KP, sz_b1, Ad2⟩
theorem ef_c_cm3_2_1 (m : MethodId) (ca : Addr) : entryFrame m #[(.ref ca), (.int 0), (.int 2)] 6 = mkF m 0 #[.val (.ref ca), .val (.int 0), .val (.int 2), .unset, .unset, .unset] [] := by first | (simp [entryFrame, mkF, argsToLocals, Value.category]; done) | rfl
set_option maxRecDepth 65536 in
set_option maxHeartbeats 40000000 in
theorem c_cm3_2_1 (l : Launch) (Z : State) (a0 : Array Value) (hw : ∀ d ∈ tables_1, d.before a0 Z = true) (ca : Addr) (h0 : Heap) (n0 : Nat) (Z0 : n0 ≤ h0.size) (c0 : Int32) (c1 : Int32) (A_ca : Ars Z h0 ca .char [(.int c0), (.int c1)]) (S__assertionsDisabled : Sta Z h0 "java/lang/StringUTF16" "$assertionsDisabled" "Z" (.int 1)) (S_HI_BYTE_SHIFT : Sta Z h0 "java/lang/StringUTF16" "HI_BYTE_SHIFT" "I" (.int 0)) (S_LO_BYTE_SHIFT : Sta Z h0 "java/lang/StringUTF16" "LO_BYTE_SHIFT" "I" (.int 8)) (ha : (255 : Int32) < c0 ∨ (255 : Int32) < c1) (hr0 : 0 ≤ c0.toInt ∧ c0.toInt < 65536) (hr1 : 0 ≤ c1.toInt ∧ c1.toInt < 65536) :
  Ctr l Z (⟨"java/lang/StringUTF16", "compress", "([CII)[B"⟩ : MethodName) jdk_52_method_16_code 6 (some (.array .byte)) ({ frames := 3, cells := 2, slots := 6, locals := 40 } : Room) #[(.ref ca), (.int 0), (.int 2)] h0 (fun v h L => ∃ b : Addr, v = some (.ref b) ∧ Fr n0 L ∧ Keep h0 h [] ∧ h0.size ≤ b ∧ Ars Z h b .byte [(.int (c0 >>> ((0 : Int32) &&& 31)).toInt8.toInt32), (.int (c0 >>> ((8 : Int32) &&& 31)).toInt8.toInt32), (.int (c1 >>> ((0 : Int32) &&& 31)).toInt8.toInt32), (.int (c1 >>> ((8 : Int32) &&& 31)).toInt8.toInt32)]) := by
 refine Ctr.of (plainFor_of_name pn_3) (fun m => ef_c_cm3_2_1 m ca) ?_
 intro p e s m below meth c T0 hx hby hml hown hnm hret hlk hZ e0 X0
 have N0 := Fr.nil n0
 replace hown : s.vm.findClass "java/lang/StringUTF16" = some m.cls := hown
 replace hml : c.maxLocals = 6 := hml
 have KP := Keep.refl h0 []
 refine Run.x_iloadN (q := 1) X0 hx (hb hby d13_0) rfl rfl ?_
 refine Run.newP (aty := .byte) X0 hx hZ e0 (wm24 hw) (hb hby d13_1) (len := 2) (by decide) (by decide) (cap := 2) (by decide) (by decide) (by decide) (by decide) ?_
 intro T1 h1 b1 gg1 X1 e1 E1 A_b1
 have g_b1 : n0 ≤ b1 := Nat.le_trans Z0 (Nat.le_of_eq gg1.symm)
 have ne_ca_b1 : ca ≠ b1 := Nat.ne_of_lt (Nat.lt_of_lt_of_le A_ca.lt (Nat.le_of_eq gg1.symm))
 have sz_b1 : h0.size ≤ b1 := Nat.le_trans KP.1 (Nat.le_of_eq gg1.symm)
 have Z1 : n0 ≤ h1.size := Nat.le_trans Z0 E1.1
 replace KP := KP.ext E1
 replace A_b1 : Ars Z h1 b1 .byte [(.int 0), (.int 0)] := A_b1
 show Run p e below s _ _ _ (T1.setTop (mkF m 3 #[.val (.ref ca), .val (.int 0), .val (.int 2), .unset, .unset, .unset] [(.ref b1)]))
 refine Run.x_astoreN (q := 4) X1 hx #[.val (.ref ca), .val (.int 0), .val (.int 2), .val (.ref b1), .unset, .unset] (hb hby d13_3) rfl rfl rfl ?_
 refine Run.x_aloadN (q := 5) X1 hx (hb hby d13_4) rfl rfl rfl ?_
 refine Run.x_iloadN (q := 6) X1 hx (hb hby d13_5) rfl rfl ?_
 refine Run.x_aloadN (q := 7) X1 hx (hb hby d13_6) rfl rfl rfl ?_
 refine Run.x_iconst (q := 8) X1 hx (hb hby d13_7) (z := (0 : Int32)) rfl rfl ?_
 refine Run.x_iloadN (q := 9) X1 hx (hb hby d13_8) rfl rfl ?_
 by_cases hl0 : (255 : Int32) < c0
 ·skip
  have hg := hl0
  replace A_ca := A_ca.ext E1
  refine Run.callS X1 hx hZ e1 (y := (⟨"java/lang/StringUTF16", "compress", "([CI[BII)I"⟩ : MethodName)) hown (wm25 hw) (wm26 hw) (wm22 hw) (wm27 hw) (by decide) (argsL := [(.ref ca), (.int 0), (.ref b1), (.int 0), (.int 2)]) (rest := []) (c_cm5_2_0 l Z a0 hw ca b1 h1 n0 Z1 c0 c1 A_ca A_b1 g_b1 ne_ca_b1 hg) pd_8 rfl (by rw [hml]; rfl) (W := 0) rfl (by decide) (by decide) (by decide) (by decide) (hb hby d13_9) rfl ?_
  intro T2 v2 L2 X2 q2
  obtain ⟨rfl, M2, K2, Ad2⟩ := q2
  have N2 := Fr.app N0 M2
  show Run p e below s _ _ _ (T2.setTop (mkF m 12 #[.val (.ref ca), .val (.int 0), .val (.int 2), .val (.ref b1), .unset, .unset] [(.int 0)]))
  replace S__assertionsDisabled := S__assertionsDisabled.ext E1
  replace S__assertionsDisabled := Sta_keep S__assertionsDisabled K2 (allS A_b1.ns all0)
  replace S_HI_BYTE_SHIFT := S_HI_BYTE_SHIFT.ext E1
  replace S_HI_BYTE_SHIFT := Sta_keep S_HI_BYTE_SHIFT K2 (allS A_b1.ns all0)
  replace S_LO_BYTE_SHIFT := S_LO_BYTE_SHIFT.ext E1
  replace S_LO_BYTE_SHIFT := Sta_keep S_LO_BYTE_SHIFT K2 (allS A_b1.ns all0)
  have Z2 : n0 ≤ T2.heap.size := Nat.le_trans Z1 K2.1
  replace KP := KP.trans K2 (allS (Or.inr sz_b1) all0)
  refine Run.x_istore (q := 14) X2 hx #[.val (.ref ca), .val (.int 0), .val (.int 2), .val (.ref b1), .val (.int 0), .unset] (hb hby d13_12) rfl rfl ?_
  refine Run.x_iload (q := 16) X2 hx (hb hby d13_14) rfl rfl ?_
  refine Run.x_iloadN (q := 17) X2 hx (hb hby d13_16) rfl rfl ?_
  refine Run.x_icmpNo (q := 20) X2 hx (hb hby d13_17) (feq (by decide : ¬ ((0 : Int32) = (2 : Int32)))).1 rfl ?_
  refine Run.x_aloadN (q := 21) X2 hx (hb hby d13_20) rfl rfl rfl ?_
  refine Run.x_iloadN (q := 22) X2 hx (hb hby d13_21) rfl rfl ?_
  refine Run.x_iloadN (q := 23) X2 hx (hb hby d13_22) rfl rfl ?_
  replace A_ca := A_ca.keep K2 (ninS ne_ca_b1 nin0)
  refine Run.callS X2 hx hZ rfl (y := (⟨"java/lang/StringUTF16", "toBytes", "([CII)[B"⟩ : MethodName)) hown (wm85 hw) (wm86 hw) (wm22 hw) (wm87 hw) (by decide) (argsL := [(.ref ca), (.int 0), (.int 2)]) (rest := []) (c_tob2 l Z a0 hw ca T2.heap n0 Z2 c0 c1 A_ca S__assertionsDisabled S_HI_BYTE_SHIFT S_LO_BYTE_SHIFT) pd_9 rfl (by rw [hml]; rfl) (W := 0) rfl (by decide) (by decide) (by decide) (by decide) (hb hby d13_23) rfl ?_
  intro T3 v3 L3 X3 q3
  obtain ⟨np3, rfl, M3, K3, sz3, An3⟩ := q3
  have N3 := Fr.app N2 M3
  show Run p e below s _ _ _ (T3.setTop (mkF m 26 #[.val (.ref ca), .val (.int 0), .val (.int 2), .val (.ref b1), .val (.int 0), .unset] [(.ref np3)]))
  have ne_ca_np3 : ca ≠ np3 := Nat.ne_of_lt (Nat.lt_of_lt_of_le A_ca.lt sz3)
  have ne_b1_np3 : b1 ≠ np3 := Nat.ne_of_lt (Nat.lt_of_lt_of_le Ad2.lt sz3)
  have g_np3 : n0 ≤ np3 := Nat.le_trans Z2 sz3
  have sz_np3 : h0.size ≤ np3 := Nat.le_trans KP.1 sz3
  replace S__assertionsDisabled := Sta_keep S__assertionsDisabled K3 all0
  replace S_HI_BYTE_SHIFT := Sta_keep S_HI_BYTE_SHIFT K3 all0
  replace S_LO_BYTE_SHIFT := Sta_keep S_LO_BYTE_SHIFT K3 all0
  have Z3 : n0 ≤ T3.heap.size := Nat.le_trans Z2 K3.1
  replace KP := KP.trans K3 all0
  refine Run.x_astore (q := 28) X3 hx #[.val (.ref ca), .val (.int 0), .val (.int 2), .val (.ref b1), .val (.int 0), .val (.ref np3)] (hb hby d13_26) rfl rfl rfl ?_
  refine Run.x_aload (q := 30) X3 hx (hb hby d13_28) rfl rfl rfl ?_
  refine Run.x_iload (q := 32) X3 hx (hb hby d13_30) rfl rfl ?_
  refine Run.callSI (q := 35) X3 hx hZ rfl (y := (⟨"java/lang/StringUTF16", "getChar", "([BI)C"⟩ : MethodName)) hown (wm101 hw) (wm102 hw) (wm22 hw) (wm103 hw) (by decide) (argsL := [(.ref np3), (.int 0)]) (rest := []) (c_get l Z a0 hw np3 (0 : Int32) T3.heap n0 Z3 [(.int (c0 >>> ((0 : Int32) &&& 31)).toInt8.toInt32), (.int (c0 >>> ((8 : Int32) &&& 31)).toInt8.toInt32), (.int (c1 >>> ((0 : Int32) &&& 31)).toInt8.toInt32), (.int (c1 >>> ((8 : Int32) &&& 31)).toInt8.toInt32)] 0 (c0 >>> ((0 : Int32) &&& 31)).toInt8.toInt32 (c0 >>> ((8 : Int32) &&& 31)).toInt8.toInt32 c0 An3 S__assertionsDisabled S_HI_BYTE_SHIFT S_LO_BYTE_SHIFT (by decide) (by decide) rfl rfl (own_utf hr0)) pd_4 rfl (by rw [hml]; rfl) (W := 0) rfl (by decide) (by decide) (by decide) (by decide) (hb hby d13_32) rfl rfl fun T4 L4 X4 M4 e4 => ?_
  have N4 := Fr.app N3 M4
  refine Run.x_sipush (q := 38) X4 hx (hb hby d13_35) (z := (255 : Int32)) rfl rfl ?_
  refine Run.x_icmpYes (q := 54) X4 hx (hb hby d13_38) (tlt hg).2.2.1 (by decide) (by decide) ?_
  refine Run.x_aload (q := 56) X4 hx (hb hby d13_54) rfl rfl rfl ?_
  replace A_ca := A_ca.keep K3 nin0
  replace Ad2 := Ad2.keep K3 nin0
  refine Run.retA X4 hx hlk e4 (t := (.array .byte)) hret rfl rfl rfl (hb hby d13_56) (by decide) (by decide) ?_
  exact ⟨np3, rfl, N4, KP, sz_np3, An3⟩
 ·skip
  have hg : (255 : Int32) < c1 := by simpa [hl0] using ha
  replace A_ca := A_ca.ext E1
  refine Run.callS X1 hx hZ e1 (y := (⟨"java/lang/StringUTF16", "compress", "([CI[BII)I"⟩ : MethodName)) hown (wm25 hw) (wm26 hw) (wm22 hw) (wm27 hw) (by decide) (argsL := [(.ref ca), (.int 0), (.ref b1), (.int 0), (.int 2)]) (rest := []) (c_cm5_2_1 l Z a0 hw ca b1 h1 n0 Z1 c0 c1 A_ca A_b1 g_b1 ne_ca_b1 hl0 hg) pd_8 rfl (by rw [hml]; rfl) (W := 0) rfl (by decide) (by decide) (by decide) (by decide) (hb hby d13_9) rfl ?_
  intro T5 v5 L5 X5 q5
  obtain ⟨rfl, M5, K5, Ad5⟩ := q5
  have N5 := Fr.app N0 M5
  show Run p e below s _ _ _ (T5.setTop (mkF m 12 #[.val (.ref ca), .val (.int 0), .val (.int 2), .val (.ref b1), .unset, .unset] [(.int 1)]))
  replace S__assertionsDisabled := S__assertionsDisabled.ext E1
  replace S__assertionsDisabled := Sta_keep S__assertionsDisabled K5 (allS A_b1.ns all0)
  replace S_HI_BYTE_SHIFT := S_HI_BYTE_SHIFT.ext E1
  replace S_HI_BYTE_SHIFT := Sta_keep S_HI_BYTE_SHIFT K5 (allS A_b1.ns all0)
  replace S_LO_BYTE_SHIFT := S_LO_BYTE_SHIFT.ext E1
  replace S_LO_BYTE_SHIFT := Sta_keep S_LO_BYTE_SHIFT K5 (allS A_b1.ns all0)
  have Z5 : n0 ≤ T5.heap.size := Nat.le_trans Z1 K5.1
  replace KP := KP.trans K5 (allS (Or.inr sz_b1) all0)
  refine Run.x_istore (q := 14) X5 hx #[.val (.ref ca), .val (.int 0), .val (.int 2), .val (.ref b1), .val (.int 1), .unset] (hb hby d13_12) rfl rfl ?_
  refine Run.x_iload (q := 16) X5 hx (hb hby d13_14) rfl rfl ?_
  refine Run.x_iloadN (q := 17) X5 hx (hb hby d13_16) rfl rfl ?_
  refine Run.x_icmpNo (q := 20) X5 hx (hb hby d13_17) (feq (by decide : ¬ ((1 : Int32) = (2 : Int32)))).1 rfl ?_
  refine Run.x_aloadN (q := 21) X5 hx (hb hby d13_20) rfl rfl rfl ?_
  refine Run.x_iloadN (q := 22) X5 hx (hb hby d13_21) rfl rfl ?_
  refine Run.x_iloadN (q := 23) X5 hx (hb hby d13_22) rfl rfl ?_
  replace A_ca := A_ca.keep K5 (ninS ne_ca_b1 nin0)
  refine Run.callS X5 hx hZ rfl (y := (⟨"java/lang/StringUTF16", "toBytes", "([CII)[B"⟩ : MethodName)) hown (wm85 hw) (wm86 hw) (wm22 hw) (wm87 hw) (by decide) (argsL := [(.ref ca), (.int 0), (.int 2)]) (rest := []) (c_tob2 l Z a0 hw ca T5.heap n0 Z5 c0 c1 A_ca S__assertionsDisabled S_HI_BYTE_SHIFT S_LO_BYTE_SHIFT) pd_9 rfl (by rw [hml]; rfl) (W := 0) rfl (by decide) (by decide) (by decide) (by decide) (hb hby d13_23) rfl ?_
  intro T6 v6 L6 X6 q6
  obtain ⟨np6, rfl, M6, K6, sz6, An6⟩ := q6
  have N6 := Fr.app N5 M6
  show Run p e below s _ _ _ (T6.setTop (mkF m 26 #[.val (.ref ca), .val (.int 0), .val (.int 2), .val (.ref b1), .val (.int 1), .unset] [(.ref np6)]))
  have ne_ca_np6 : ca ≠ np6 := Nat.ne_of_lt (Nat.lt_of_lt_of_le A_ca.lt sz6)
  have ne_b1_np6 : b1 ≠ np6 := Nat.ne_of_lt (Nat.lt_of_lt_of_le Ad5.lt sz6)
  have g_np6 : n0 ≤ np6 := Nat.le_trans Z5 sz6
  have sz_np6 : h0.size ≤ np6 := Nat.le_trans KP.1 sz6
  replace S__assertionsDisabled := Sta_keep S__assertionsDisabled K6 all0
  replace S_HI_BYTE_SHIFT := Sta_keep S_HI_BYTE_SHIFT K6 all0
  replace S_LO_BYTE_SHIFT := Sta_keep S_LO_BYTE_SHIFT K6 all0
  have Z6 : n0 ≤ T6.heap.size := Nat.le_trans Z5 K6.1
  replace KP := KP.trans K6 all0
  refine Run.x_astore (q := 28) X6 hx #[.val (.ref ca), .val (.int 0), .val (.int 2), .val (.ref b1), .val (.int 1), .val (.ref np6)] (hb hby d13_26) rfl rfl rfl ?_
  refine Run.x_aload (q := 30) X6 hx (hb hby d13_28) rfl rfl rfl ?_
  refine Run.x_iload (q := 32) X6 hx (hb hby d13_30) rfl rfl ?_
  refine Run.callSI (q := 35) X6 hx hZ rfl (y := (⟨"java/lang/StringUTF16", "getChar", "([BI)C"⟩ : MethodName)) hown (wm101 hw) (wm102 hw) (wm22 hw) (wm103 hw) (by decide) (argsL := [(.ref np6), (.int 1)]) (rest := []) (c_get l Z a0 hw np6 (1 : Int32) T6.heap n0 Z6 [(.int (c0 >>> ((0 : Int32) &&& 31)).toInt8.toInt32), (.int (c0 >>> ((8 : Int32) &&& 31)).toInt8.toInt32), (.int (c1 >>> ((0 : Int32) &&& 31)).toInt8.toInt32), (.int (c1 >>> ((8 : Int32) &&& 31)).toInt8.toInt32)] 2 (c1 >>> ((0 : Int32) &&& 31)).toInt8.toInt32 (c1 >>> ((8 : Int32) &&& 31)).toInt8.toInt32 c1 An6 S__assertionsDisabled S_HI_BYTE_SHIFT S_LO_BYTE_SHIFT (by decide) (by decide) rfl rfl (own_utf hr1)) pd_4 rfl (by rw [hml]; rfl) (W := 0) rfl (by decide) (by decide) (by decide) (by decide) (hb hby d13_32) rfl rfl fun T7 L7 X7 M7 e7 => ?_
  have N7 := Fr.app N6 M7
  refine Run.x_sipush (q := 38) X7 hx (hb hby d13_35) (z := (255 : Int32)) rfl rfl ?_
  refine Run.x_icmpYes (q := 54) X7 hx (hb hby d13_38) (tlt hg).2.2.1 (by decide) (by decide) ?_
  refine Run.x_aload (q := 56) X7 hx (hb hby d13_54) rfl rfl rfl ?_
  replace A_ca := A_ca.keep K6 nin0
  replace Ad5 := Ad5.keep K6 nin0
  refine Run.retA X7 hx hlk e7 (t := (.array .byte)) hret rfl rfl rfl (hb hby d13_56) (by decide) (by decide) ?_
  exact ⟨np6, rfl, N7, KP, sz_np6, An6⟩
theorem ef_c_cm3_3_0 (m : MethodId) (ca : Addr) : entryFrame m #[(.ref ca), (.int 0), (.int 3)] 6 = mkF m 0 #[.val (.ref ca), .val (.int 0), .val (.int 3), .unset, .unset, .unset] [] := by first | (simp [entryFrame, mkF, argsToLocals, Value.category]; done) | rfl
set_option maxRecDepth 65536 in
set_option maxHeartbeats 40000000 in
theorem c_cm3_3_0 (l : Launch) (Z : State) (a0 : Array Value) (hw : ∀ d ∈ tables_1, d.before a0 Z = true) (ca : Addr) (h0 : Heap) (n0 : Nat) (Z0 : n0 ≤ h0.size) (c0 : Int32) (c1 : Int32) (c2 : Int32) (A_ca : Ars Z h0 ca .char [(.int c0), (.int c1), (.int c2)]) (ha0 : ¬ (255 : Int32) < c0) (ha1 : ¬ (255 : Int32) < c1) (ha2 : ¬ (255 : Int32) < c2) (hr0 : 0 ≤ c0.toInt ∧ c0.toInt < 65536) (hr1 : 0 ≤ c1.toInt ∧ c1.toInt < 65536) (hr2 : 0 ≤ c2.toInt ∧ c2.toInt < 65536) :
  Ctr l Z (⟨"java/lang/StringUTF16", "compress", "([CII)[B"⟩ : MethodName) jdk_52_method_16_code 6 (some (.array .byte)) ({ frames := 1, cells := 1, slots := 3, locals := 18 } : Room) #[(.ref ca), (.int 0), (.int 3)] h0 (fun v h L => ∃ b : Addr, v = some (.ref b) ∧ Fr n0 L ∧ Keep h0 h [] ∧ h0.size ≤ b ∧ Ars Z h b .byte [(.int c0.toInt8.toInt32), (.int c1.toInt8.toInt32), (.int c2.toInt8.toInt32)]) := by
 refine Ctr.of (plainFor_of_name pn_3) (fun m => ef_c_cm3_3_0 m ca) ?_
 intro p e s m below meth c T0 hx hby hml hown hnm hret hlk hZ e0 X0
 have N0 := Fr.nil n0
 replace hown : s.vm.findClass "java/lang/StringUTF16" = some m.cls := hown
 replace hml : c.maxLocals = 6 := hml
 have KP := Keep.refl h0 []
 refine Run.x_iloadN (q := 1) X0 hx (hb hby d13_0) rfl rfl ?_
 refine Run.newP (aty := .byte) X0 hx hZ e0 (wm24 hw) (hb hby d13_1) (len := 3) (by decide) (by decide) (cap := 3) (by decide) (by decide) (by decide) (by decide) ?_
 intro T1 h1 b1 gg1 X1 e1 E1 A_b1
 have g_b1 : n0 ≤ b1 := Nat.le_trans Z0 (Nat.le_of_eq gg1.symm)
 have ne_ca_b1 : ca ≠ b1 := Nat.ne_of_lt (Nat.lt_of_lt_of_le A_ca.lt (Nat.le_of_eq gg1.symm))
 have sz_b1 : h0.size ≤ b1 := Nat.le_trans KP.1 (Nat.le_of_eq gg1.symm)
 have Z1 : n0 ≤ h1.size := Nat.le_trans Z0 E1.1
 replace KP := KP.ext E1
 replace A_b1 : Ars Z h1 b1 .byte [(.int 0), (.int 0), (.int 0)] := A_b1
 show Run p e below s _ _ _ (T1.setTop (mkF m 3 #[.val (.ref ca), .val (.int 0), .val (.int 3), .unset, .unset, .unset] [(.ref b1)]))
 refine Run.x_astoreN (q := 4) X1 hx #[.val (.ref ca), .val (.int 0), .val (.int 3), .val (.ref b1), .unset, .unset] (hb hby d13_3) rfl rfl rfl ?_
 refine Run.x_aloadN (q := 5) X1 hx (hb hby d13_4) rfl rfl rfl ?_
 refine Run.x_iloadN (q := 6) X1 hx (hb hby d13_5) rfl rfl ?_
 refine Run.x_aloadN (q := 7) X1 hx (hb hby d13_6) rfl rfl rfl ?_
 refine Run.x_iconst (q := 8) X1 hx (hb hby d13_7) (z := (0 : Int32)) rfl rfl ?_
 refine Run.x_iloadN (q := 9) X1 hx (hb hby d13_8) rfl rfl ?_
 replace A_ca := A_ca.ext E1
 refine Run.callS X1 hx hZ e1 (y := (⟨"java/lang/StringUTF16", "compress", "([CI[BII)I"⟩ : MethodName)) hown (wm25 hw) (wm26 hw) (wm22 hw) (wm27 hw) (by decide) (argsL := [(.ref ca), (.int 0), (.ref b1), (.int 0), (.int 3)]) (rest := []) (c_cm5_3_3 l Z a0 hw ca b1 h1 n0 Z1 c0 c1 c2 A_ca A_b1 g_b1 ne_ca_b1 ha0 ha1 ha2) pd_8 rfl (by rw [hml]; rfl) (W := 0) rfl (by decide) (by decide) (by decide) (by decide) (hb hby d13_9) rfl ?_
 intro T2 v2 L2 X2 q2
 obtain ⟨rfl, M2, K2, Ad2⟩ := q2
 have N2 := Fr.app N0 M2
 show Run p e below s _ _ _ (T2.setTop (mkF m 12 #[.val (.ref ca), .val (.int 0), .val (.int 3), .val (.ref b1), .unset, .unset] [(.int 3)]))
 have Z2 : n0 ≤ T2.heap.size := Nat.le_trans Z1 K2.1
 replace KP := KP.trans K2 (allS (Or.inr sz_b1) all0)
 refine Run.x_istore (q := 14) X2 hx #[.val (.ref ca), .val (.int 0), .val (.int 3), .val (.ref b1), .val (.int 3), .unset] (hb hby d13_12) rfl rfl ?_
 refine Run.x_iload (q := 16) X2 hx (hb hby d13_14) rfl rfl ?_
 refine Run.x_iloadN (q := 17) X2 hx (hb hby d13_16) rfl rfl ?_
 refine Run.x_icmpYes (q := 57) X2 hx (hb hby d13_17) (teq (by decide : (3 : Int32) = (3 : Int32))).1 (by decide) (by decide) ?_
 refine Run.x_aloadN (q := 58) X2 hx (hb hby d13_57) rfl rfl rfl ?_
 replace A_ca := A_ca.keep K2 (ninS ne_ca_b1 nin0)
 refine Run.retA X2 hx hlk rfl (t := (.array .byte)) hret rfl rfl rfl (hb hby d13_58) (by decide) (by decide) ?_
 exact ⟨b1, rfl, N2, KP, sz_b1, Ad2⟩
theorem ef_c_cm3_3_1 (m : MethodId) (ca : Addr) : entryFrame m #[(.ref ca), (.int 0), (.int 3)] 6 = mkF m 0 #[.val (.ref ca), .val (.int 0), .val (.int 3), .unset, .unset, .unset] [] := by first | (simp [entryFrame, mkF, argsToLocals, Value.category]; done) | rfl
set_option maxRecDepth 65536 in
set_option maxHeartbeats 40000000 in
theorem c_cm3_3_1 (l : Launch) (Z : State) (a0 : Array Value) (hw : ∀ d ∈ tables_1, d.before a0 Z = true) (ca : Addr) (h0 : Heap) (n0 : Nat) (Z0 : n0 ≤ h0.size) (c0 : Int32) (c1 : Int32) (c2 : Int32) (A_ca : Ars Z h0 ca .char [(.int c0), (.int c1), (.int c2)]) (S__assertionsDisabled : Sta Z h0 "java/lang/StringUTF16" "$assertionsDisabled" "Z" (.int 1)) (S_HI_BYTE_SHIFT : Sta Z h0 "java/lang/StringUTF16" "HI_BYTE_SHIFT" "I" (.int 0)) (S_LO_BYTE_SHIFT : Sta Z h0 "java/lang/StringUTF16" "LO_BYTE_SHIFT" "I" (.int 8)) (ha : (255 : Int32) < c0 ∨ (255 : Int32) < c1 ∨ (255 : Int32) < c2) (hr0 : 0 ≤ c0.toInt ∧ c0.toInt < 65536) (hr1 : 0 ≤ c1.toInt ∧ c1.toInt < 65536) (hr2 : 0 ≤ c2.toInt ∧ c2.toInt < 65536) :
  Ctr l Z (⟨"java/lang/StringUTF16", "compress", "([CII)[B"⟩ : MethodName) jdk_52_method_16_code 6 (some (.array .byte)) ({ frames := 3, cells := 2, slots := 9, locals := 40 } : Room) #[(.ref ca), (.int 0), (.int 3)] h0 (fun v h L => ∃ b : Addr, v = some (.ref b) ∧ Fr n0 L ∧ Keep h0 h [] ∧ h0.size ≤ b ∧ Ars Z h b .byte [(.int (c0 >>> ((0 : Int32) &&& 31)).toInt8.toInt32), (.int (c0 >>> ((8 : Int32) &&& 31)).toInt8.toInt32), (.int (c1 >>> ((0 : Int32) &&& 31)).toInt8.toInt32), (.int (c1 >>> ((8 : Int32) &&& 31)).toInt8.toInt32), (.int (c2 >>> ((0 : Int32) &&& 31)).toInt8.toInt32), (.int (c2 >>> ((8 : Int32) &&& 31)).toInt8.toInt32)]) := by
 refine Ctr.of (plainFor_of_name pn_3) (fun m => ef_c_cm3_3_1 m ca) ?_
 intro p e s m below meth c T0 hx hby hml hown hnm hret hlk hZ e0 X0
 have N0 := Fr.nil n0
 replace hown : s.vm.findClass "java/lang/StringUTF16" = some m.cls := hown
 replace hml : c.maxLocals = 6 := hml
 have KP := Keep.refl h0 []
 refine Run.x_iloadN (q := 1) X0 hx (hb hby d13_0) rfl rfl ?_
 refine Run.newP (aty := .byte) X0 hx hZ e0 (wm24 hw) (hb hby d13_1) (len := 3) (by decide) (by decide) (cap := 3) (by decide) (by decide) (by decide) (by decide) ?_
 intro T1 h1 b1 gg1 X1 e1 E1 A_b1
 have g_b1 : n0 ≤ b1 := Nat.le_trans Z0 (Nat.le_of_eq gg1.symm)
 have ne_ca_b1 : ca ≠ b1 := Nat.ne_of_lt (Nat.lt_of_lt_of_le A_ca.lt (Nat.le_of_eq gg1.symm))
 have sz_b1 : h0.size ≤ b1 := Nat.le_trans KP.1 (Nat.le_of_eq gg1.symm)
 have Z1 : n0 ≤ h1.size := Nat.le_trans Z0 E1.1
 replace KP := KP.ext E1
 replace A_b1 : Ars Z h1 b1 .byte [(.int 0), (.int 0), (.int 0)] := A_b1
 show Run p e below s _ _ _ (T1.setTop (mkF m 3 #[.val (.ref ca), .val (.int 0), .val (.int 3), .unset, .unset, .unset] [(.ref b1)]))
 refine Run.x_astoreN (q := 4) X1 hx #[.val (.ref ca), .val (.int 0), .val (.int 3), .val (.ref b1), .unset, .unset] (hb hby d13_3) rfl rfl rfl ?_
 refine Run.x_aloadN (q := 5) X1 hx (hb hby d13_4) rfl rfl rfl ?_
 refine Run.x_iloadN (q := 6) X1 hx (hb hby d13_5) rfl rfl ?_
 refine Run.x_aloadN (q := 7) X1 hx (hb hby d13_6) rfl rfl rfl ?_
 refine Run.x_iconst (q := 8) X1 hx (hb hby d13_7) (z := (0 : Int32)) rfl rfl ?_
 refine Run.x_iloadN (q := 9) X1 hx (hb hby d13_8) rfl rfl ?_
 by_cases hl0 : (255 : Int32) < c0
 ·skip
  have hg := hl0
  replace A_ca := A_ca.ext E1
  refine Run.callS X1 hx hZ e1 (y := (⟨"java/lang/StringUTF16", "compress", "([CI[BII)I"⟩ : MethodName)) hown (wm25 hw) (wm26 hw) (wm22 hw) (wm27 hw) (by decide) (argsL := [(.ref ca), (.int 0), (.ref b1), (.int 0), (.int 3)]) (rest := []) (c_cm5_3_0 l Z a0 hw ca b1 h1 n0 Z1 c0 c1 c2 A_ca A_b1 g_b1 ne_ca_b1 hg) pd_8 rfl (by rw [hml]; rfl) (W := 0) rfl (by decide) (by decide) (by decide) (by decide) (hb hby d13_9) rfl ?_
  intro T2 v2 L2 X2 q2
  obtain ⟨rfl, M2, K2, Ad2⟩ := q2
  have N2 := Fr.app N0 M2
  show Run p e below s _ _ _ (T2.setTop (mkF m 12 #[.val (.ref ca), .val (.int 0), .val (.int 3), .val (.ref b1), .unset, .unset] [(.int 0)]))
  replace S__assertionsDisabled := S__assertionsDisabled.ext E1
  replace S__assertionsDisabled := Sta_keep S__assertionsDisabled K2 (allS A_b1.ns all0)
  replace S_HI_BYTE_SHIFT := S_HI_BYTE_SHIFT.ext E1
  replace S_HI_BYTE_SHIFT := Sta_keep S_HI_BYTE_SHIFT K2 (allS A_b1.ns all0)
  replace S_LO_BYTE_SHIFT := S_LO_BYTE_SHIFT.ext E1
  replace S_LO_BYTE_SHIFT := Sta_keep S_LO_BYTE_SHIFT K2 (allS A_b1.ns all0)
  have Z2 : n0 ≤ T2.heap.size := Nat.le_trans Z1 K2.1
  replace KP := KP.trans K2 (allS (Or.inr sz_b1) all0)
  refine Run.x_istore (q := 14) X2 hx #[.val (.ref ca), .val (.int 0), .val (.int 3), .val (.ref b1), .val (.int 0), .unset] (hb hby d13_12) rfl rfl ?_
  refine Run.x_iload (q := 16) X2 hx (hb hby d13_14) rfl rfl ?_
  refine Run.x_iloadN (q := 17) X2 hx (hb hby d13_16) rfl rfl ?_
  refine Run.x_icmpNo (q := 20) X2 hx (hb hby d13_17) (feq (by decide : ¬ ((0 : Int32) = (3 : Int32)))).1 rfl ?_
  refine Run.x_aloadN (q := 21) X2 hx (hb hby d13_20) rfl rfl rfl ?_
  refine Run.x_iloadN (q := 22) X2 hx (hb hby d13_21) rfl rfl ?_
  refine Run.x_iloadN (q := 23) X2 hx (hb hby d13_22) rfl rfl ?_
  replace A_ca := A_ca.keep K2 (ninS ne_ca_b1 nin0)
  refine Run.callS X2 hx hZ rfl (y := (⟨"java/lang/StringUTF16", "toBytes", "([CII)[B"⟩ : MethodName)) hown (wm85 hw) (wm86 hw) (wm22 hw) (wm87 hw) (by decide) (argsL := [(.ref ca), (.int 0), (.int 3)]) (rest := []) (c_tob3 l Z a0 hw ca T2.heap n0 Z2 c0 c1 c2 A_ca S__assertionsDisabled S_HI_BYTE_SHIFT S_LO_BYTE_SHIFT) pd_9 rfl (by rw [hml]; rfl) (W := 0) rfl (by decide) (by decide) (by decide) (by decide) (hb hby d13_23) rfl ?_
  intro T3 v3 L3 X3 q3
  obtain ⟨np3, rfl, M3, K3, sz3, An3⟩ := q3
  have N3 := Fr.app N2 M3
  show Run p e below s _ _ _ (T3.setTop (mkF m 26 #[.val (.ref ca), .val (.int 0), .val (.int 3), .val (.ref b1), .val (.int 0), .unset] [(.ref np3)]))
  have ne_ca_np3 : ca ≠ np3 := Nat.ne_of_lt (Nat.lt_of_lt_of_le A_ca.lt sz3)
  have ne_b1_np3 : b1 ≠ np3 := Nat.ne_of_lt (Nat.lt_of_lt_of_le Ad2.lt sz3)
  have g_np3 : n0 ≤ np3 := Nat.le_trans Z2 sz3
  have sz_np3 : h0.size ≤ np3 := Nat.le_trans KP.1 sz3
  replace S__assertionsDisabled := Sta_keep S__assertionsDisabled K3 all0
  replace S_HI_BYTE_SHIFT := Sta_keep S_HI_BYTE_SHIFT K3 all0
  replace S_LO_BYTE_SHIFT := Sta_keep S_LO_BYTE_SHIFT K3 all0
  have Z3 : n0 ≤ T3.heap.size := Nat.le_trans Z2 K3.1
  replace KP := KP.trans K3 all0
  refine Run.x_astore (q := 28) X3 hx #[.val (.ref ca), .val (.int 0), .val (.int 3), .val (.ref b1), .val (.int 0), .val (.ref np3)] (hb hby d13_26) rfl rfl rfl ?_
  refine Run.x_aload (q := 30) X3 hx (hb hby d13_28) rfl rfl rfl ?_
  refine Run.x_iload (q := 32) X3 hx (hb hby d13_30) rfl rfl ?_
  refine Run.callSI (q := 35) X3 hx hZ rfl (y := (⟨"java/lang/StringUTF16", "getChar", "([BI)C"⟩ : MethodName)) hown (wm101 hw) (wm102 hw) (wm22 hw) (wm103 hw) (by decide) (argsL := [(.ref np3), (.int 0)]) (rest := []) (c_get l Z a0 hw np3 (0 : Int32) T3.heap n0 Z3 [(.int (c0 >>> ((0 : Int32) &&& 31)).toInt8.toInt32), (.int (c0 >>> ((8 : Int32) &&& 31)).toInt8.toInt32), (.int (c1 >>> ((0 : Int32) &&& 31)).toInt8.toInt32), (.int (c1 >>> ((8 : Int32) &&& 31)).toInt8.toInt32), (.int (c2 >>> ((0 : Int32) &&& 31)).toInt8.toInt32), (.int (c2 >>> ((8 : Int32) &&& 31)).toInt8.toInt32)] 0 (c0 >>> ((0 : Int32) &&& 31)).toInt8.toInt32 (c0 >>> ((8 : Int32) &&& 31)).toInt8.toInt32 c0 An3 S__assertionsDisabled S_HI_BYTE_SHIFT S_LO_BYTE_SHIFT (by decide) (by decide) rfl rfl (own_utf hr0)) pd_4 rfl (by rw [hml]; rfl) (W := 0) rfl (by decide) (by decide) (by decide) (by decide) (hb hby d13_32) rfl rfl fun T4 L4 X4 M4 e4 => ?_
  have N4 := Fr.app N3 M4
  refine Run.x_sipush (q := 38) X4 hx (hb hby d13_35) (z := (255 : Int32)) rfl rfl ?_
  refine Run.x_icmpYes (q := 54) X4 hx (hb hby d13_38) (tlt hg).2.2.1 (by decide) (by decide) ?_
  refine Run.x_aload (q := 56) X4 hx (hb hby d13_54) rfl rfl rfl ?_
  replace A_ca := A_ca.keep K3 nin0
  replace Ad2 := Ad2.keep K3 nin0
  refine Run.retA X4 hx hlk e4 (t := (.array .byte)) hret rfl rfl rfl (hb hby d13_56) (by decide) (by decide) ?_
  exact ⟨np3, rfl, N4, KP, sz_np3, An3⟩
 ·skip
  by_cases hl1 : (255 : Int32) < c1
  ·skip
   have hg := hl1
   replace A_ca := A_ca.ext E1
   refine Run.callS X1 hx hZ e1 (y := (⟨"java/lang/StringUTF16", "compress", "([CI[BII)I"⟩ : MethodName)) hown (wm25 hw) (wm26 hw) (wm22 hw) (wm27 hw) (by decide) (argsL := [(.ref ca), (.int 0), (.ref b1), (.int 0), (.int 3)]) (rest := []) (c_cm5_3_1 l Z a0 hw ca b1 h1 n0 Z1 c0 c1 c2 A_ca A_b1 g_b1 ne_ca_b1 hl0 hg) pd_8 rfl (by rw [hml]; rfl) (W := 0) rfl (by decide) (by decide) (by decide) (by decide) (hb hby d13_9) rfl ?_
   intro T5 v5 L5 X5 q5
   obtain ⟨rfl, M5, K5, Ad5⟩ := q5
   have N5 := Fr.app N0 M5
   show Run p e below s _ _ _ (T5.setTop (mkF m 12 #[.val (.ref ca), .val (.int 0), .val (.int 3), .val (.ref b1), .unset, .unset] [(.int 1)]))
   replace S__assertionsDisabled := S__assertionsDisabled.ext E1
   replace S__assertionsDisabled := Sta_keep S__assertionsDisabled K5 (allS A_b1.ns all0)
   replace S_HI_BYTE_SHIFT := S_HI_BYTE_SHIFT.ext E1
   replace S_HI_BYTE_SHIFT := Sta_keep S_HI_BYTE_SHIFT K5 (allS A_b1.ns all0)
   replace S_LO_BYTE_SHIFT := S_LO_BYTE_SHIFT.ext E1
   replace S_LO_BYTE_SHIFT := Sta_keep S_LO_BYTE_SHIFT K5 (allS A_b1.ns all0)
   have Z5 : n0 ≤ T5.heap.size := Nat.le_trans Z1 K5.1
   replace KP := KP.trans K5 (allS (Or.inr sz_b1) all0)
   refine Run.x_istore (q := 14) X5 hx #[.val (.ref ca), .val (.int 0), .val (.int 3), .val (.ref b1), .val (.int 1), .unset] (hb hby d13_12) rfl rfl ?_
   refine Run.x_iload (q := 16) X5 hx (hb hby d13_14) rfl rfl ?_
   refine Run.x_iloadN (q := 17) X5 hx (hb hby d13_16) rfl rfl ?_
   refine Run.x_icmpNo (q := 20) X5 hx (hb hby d13_17) (feq (by decide : ¬ ((1 : Int32) = (3 : Int32)))).1 rfl ?_
   refine Run.x_aloadN (q := 21) X5 hx (hb hby d13_20) rfl rfl rfl ?_
   refine Run.x_iloadN (q := 22) X5 hx (hb hby d13_21) rfl rfl ?_
   refine Run.x_iloadN (q := 23) X5 hx (hb hby d13_22) rfl rfl ?_
   replace A_ca := A_ca.keep K5 (ninS ne_ca_b1 nin0)
   refine Run.callS X5 hx hZ rfl (y := (⟨"java/lang/StringUTF16", "toBytes", "([CII)[B"⟩ : MethodName)) hown (wm85 hw) (wm86 hw) (wm22 hw) (wm87 hw) (by decide) (argsL := [(.ref ca), (.int 0), (.int 3)]) (rest := []) (c_tob3 l Z a0 hw ca T5.heap n0 Z5 c0 c1 c2 A_ca S__assertionsDisabled S_HI_BYTE_SHIFT S_LO_BYTE_SHIFT) pd_9 rfl (by rw [hml]; rfl) (W := 0) rfl (by decide) (by decide) (by decide) (by decide) (hb hby d13_23) rfl ?_
   intro T6 v6 L6 X6 q6
   obtain ⟨np6, rfl, M6, K6, sz6, An6⟩ := q6
   have N6 := Fr.app N5 M6
   show Run p e below s _ _ _ (T6.setTop (mkF m 26 #[.val (.ref ca), .val (.int 0), .val (.int 3), .val (.ref b1), .val (.int 1), .unset] [(.ref np6)]))
   have ne_ca_np6 : ca ≠ np6 := Nat.ne_of_lt (Nat.lt_of_lt_of_le A_ca.lt sz6)
   have ne_b1_np6 : b1 ≠ np6 := Nat.ne_of_lt (Nat.lt_of_lt_of_le Ad5.lt sz6)
   have g_np6 : n0 ≤ np6 := Nat.le_trans Z5 sz6
   have sz_np6 : h0.size ≤ np6 := Nat.le_trans KP.1 sz6
   replace S__assertionsDisabled := Sta_keep S__assertionsDisabled K6 all0
   replace S_HI_BYTE_SHIFT := Sta_keep S_HI_BYTE_SHIFT K6 all0
   replace S_LO_BYTE_SHIFT := Sta_keep S_LO_BYTE_SHIFT K6 all0
   have Z6 : n0 ≤ T6.heap.size := Nat.le_trans Z5 K6.1
   replace KP := KP.trans K6 all0
   refine Run.x_astore (q := 28) X6 hx #[.val (.ref ca), .val (.int 0), .val (.int 3), .val (.ref b1), .val (.int 1), .val (.ref np6)] (hb hby d13_26) rfl rfl rfl ?_
   refine Run.x_aload (q := 30) X6 hx (hb hby d13_28) rfl rfl rfl ?_
   refine Run.x_iload (q := 32) X6 hx (hb hby d13_30) rfl rfl ?_
   refine Run.callSI (q := 35) X6 hx hZ rfl (y := (⟨"java/lang/StringUTF16", "getChar", "([BI)C"⟩ : MethodName)) hown (wm101 hw) (wm102 hw) (wm22 hw) (wm103 hw) (by decide) (argsL := [(.ref np6), (.int 1)]) (rest := []) (c_get l Z a0 hw np6 (1 : Int32) T6.heap n0 Z6 [(.int (c0 >>> ((0 : Int32) &&& 31)).toInt8.toInt32), (.int (c0 >>> ((8 : Int32) &&& 31)).toInt8.toInt32), (.int (c1 >>> ((0 : Int32) &&& 31)).toInt8.toInt32), (.int (c1 >>> ((8 : Int32) &&& 31)).toInt8.toInt32), (.int (c2 >>> ((0 : Int32) &&& 31)).toInt8.toInt32), (.int (c2 >>> ((8 : Int32) &&& 31)).toInt8.toInt32)] 2 (c1 >>> ((0 : Int32) &&& 31)).toInt8.toInt32 (c1 >>> ((8 : Int32) &&& 31)).toInt8.toInt32 c1 An6 S__assertionsDisabled S_HI_BYTE_SHIFT S_LO_BYTE_SHIFT (by decide) (by decide) rfl rfl (own_utf hr1)) pd_4 rfl (by rw [hml]; rfl) (W := 0) rfl (by decide) (by decide) (by decide) (by decide) (hb hby d13_32) rfl rfl fun T7 L7 X7 M7 e7 => ?_
   have N7 := Fr.app N6 M7
   refine Run.x_sipush (q := 38) X7 hx (hb hby d13_35) (z := (255 : Int32)) rfl rfl ?_
   refine Run.x_icmpYes (q := 54) X7 hx (hb hby d13_38) (tlt hg).2.2.1 (by decide) (by decide) ?_
   refine Run.x_aload (q := 56) X7 hx (hb hby d13_54) rfl rfl rfl ?_
   replace A_ca := A_ca.keep K6 nin0
   replace Ad5 := Ad5.keep K6 nin0
   refine Run.retA X7 hx hlk e7 (t := (.array .byte)) hret rfl rfl rfl (hb hby d13_56) (by decide) (by decide) ?_
   exact ⟨np6, rfl, N7, KP, sz_np6, An6⟩
  ·skip
   have hg : (255 : Int32) < c2 := by simpa [hl0, hl1] using ha
   replace A_ca := A_ca.ext E1
   refine Run.callS X1 hx hZ e1 (y := (⟨"java/lang/StringUTF16", "compress", "([CI[BII)I"⟩ : MethodName)) hown (wm25 hw) (wm26 hw) (wm22 hw) (wm27 hw) (by decide) (argsL := [(.ref ca), (.int 0), (.ref b1), (.int 0), (.int 3)]) (rest := []) (c_cm5_3_2 l Z a0 hw ca b1 h1 n0 Z1 c0 c1 c2 A_ca A_b1 g_b1 ne_ca_b1 hl0 hl1 hg) pd_8 rfl (by rw [hml]; rfl) (W := 0) rfl (by decide) (by decide) (by decide) (by decide) (hb hby d13_9) rfl ?_
   intro T8 v8 L8 X8 q8
   obtain ⟨rfl, M8, K8, Ad8⟩ := q8
   have N8 := Fr.app N0 M8
   show Run p e below s _ _ _ (T8.setTop (mkF m 12 #[.val (.ref ca), .val (.int 0), .val (.int 3), .val (.ref b1), .unset, .unset] [(.int 2)]))
   replace S__assertionsDisabled := S__assertionsDisabled.ext E1
   replace S__assertionsDisabled := Sta_keep S__assertionsDisabled K8 (allS A_b1.ns all0)
   replace S_HI_BYTE_SHIFT := S_HI_BYTE_SHIFT.ext E1
   replace S_HI_BYTE_SHIFT := Sta_keep S_HI_BYTE_SHIFT K8 (allS A_b1.ns all0)
   replace S_LO_BYTE_SHIFT := S_LO_BYTE_SHIFT.ext E1
   replace S_LO_BYTE_SHIFT := Sta_keep S_LO_BYTE_SHIFT K8 (allS A_b1.ns all0)
   have Z8 : n0 ≤ T8.heap.size := Nat.le_trans Z1 K8.1
   replace KP := KP.trans K8 (allS (Or.inr sz_b1) all0)
   refine Run.x_istore (q := 14) X8 hx #[.val (.ref ca), .val (.int 0), .val (.int 3), .val (.ref b1), .val (.int 2), .unset] (hb hby d13_12) rfl rfl ?_
   refine Run.x_iload (q := 16) X8 hx (hb hby d13_14) rfl rfl ?_
   refine Run.x_iloadN (q := 17) X8 hx (hb hby d13_16) rfl rfl ?_
   refine Run.x_icmpNo (q := 20) X8 hx (hb hby d13_17) (feq (by decide : ¬ ((2 : Int32) = (3 : Int32)))).1 rfl ?_
   refine Run.x_aloadN (q := 21) X8 hx (hb hby d13_20) rfl rfl rfl ?_
   refine Run.x_iloadN (q := 22) X8 hx (hb hby d13_21) rfl rfl ?_
   refine Run.x_iloadN (q := 23) X8 hx (hb hby d13_22) rfl rfl ?_
   replace A_ca := A_ca.keep K8 (ninS ne_ca_b1 nin0)
   refine Run.callS X8 hx hZ rfl (y := (⟨"java/lang/StringUTF16", "toBytes", "([CII)[B"⟩ : MethodName)) hown (wm85 hw) (wm86 hw) (wm22 hw) (wm87 hw) (by decide) (argsL := [(.ref ca), (.int 0), (.int 3)]) (rest := []) (c_tob3 l Z a0 hw ca T8.heap n0 Z8 c0 c1 c2 A_ca S__assertionsDisabled S_HI_BYTE_SHIFT S_LO_BYTE_SHIFT) pd_9 rfl (by rw [hml]; rfl) (W := 0) rfl (by decide) (by decide) (by decide) (by decide) (hb hby d13_23) rfl ?_
   intro T9 v9 L9 X9 q9
   obtain ⟨np9, rfl, M9, K9, sz9, An9⟩ := q9
   have N9 := Fr.app N8 M9
   show Run p e below s _ _ _ (T9.setTop (mkF m 26 #[.val (.ref ca), .val (.int 0), .val (.int 3), .val (.ref b1), .val (.int 2), .unset] [(.ref np9)]))
   have ne_ca_np9 : ca ≠ np9 := Nat.ne_of_lt (Nat.lt_of_lt_of_le A_ca.lt sz9)
   have ne_b1_np9 : b1 ≠ np9 := Nat.ne_of_lt (Nat.lt_of_lt_of_le Ad8.lt sz9)
   have g_np9 : n0 ≤ np9 := Nat.le_trans Z8 sz9
   have sz_np9 : h0.size ≤ np9 := Nat.le_trans KP.1 sz9
   replace S__assertionsDisabled := Sta_keep S__assertionsDisabled K9 all0
   replace S_HI_BYTE_SHIFT := Sta_keep S_HI_BYTE_SHIFT K9 all0
   replace S_LO_BYTE_SHIFT := Sta_keep S_LO_BYTE_SHIFT K9 all0
   have Z9 : n0 ≤ T9.heap.size := Nat.le_trans Z8 K9.1
   replace KP := KP.trans K9 all0
   refine Run.x_astore (q := 28) X9 hx #[.val (.ref ca), .val (.int 0), .val (.int 3), .val (.ref b1), .val (.int 2), .val (.ref np9)] (hb hby d13_26) rfl rfl rfl ?_
   refine Run.x_aload (q := 30) X9 hx (hb hby d13_28) rfl rfl rfl ?_
   refine Run.x_iload (q := 32) X9 hx (hb hby d13_30) rfl rfl ?_
   refine Run.callSI (q := 35) X9 hx hZ rfl (y := (⟨"java/lang/StringUTF16", "getChar", "([BI)C"⟩ : MethodName)) hown (wm101 hw) (wm102 hw) (wm22 hw) (wm103 hw) (by decide) (argsL := [(.ref np9), (.int 2)]) (rest := []) (c_get l Z a0 hw np9 (2 : Int32) T9.heap n0 Z9 [(.int (c0 >>> ((0 : Int32) &&& 31)).toInt8.toInt32), (.int (c0 >>> ((8 : Int32) &&& 31)).toInt8.toInt32), (.int (c1 >>> ((0 : Int32) &&& 31)).toInt8.toInt32), (.int (c1 >>> ((8 : Int32) &&& 31)).toInt8.toInt32), (.int (c2 >>> ((0 : Int32) &&& 31)).toInt8.toInt32), (.int (c2 >>> ((8 : Int32) &&& 31)).toInt8.toInt32)] 4 (c2 >>> ((0 : Int32) &&& 31)).toInt8.toInt32 (c2 >>> ((8 : Int32) &&& 31)).toInt8.toInt32 c2 An9 S__assertionsDisabled S_HI_BYTE_SHIFT S_LO_BYTE_SHIFT (by decide) (by decide) rfl rfl (own_utf hr2)) pd_4 rfl (by rw [hml]; rfl) (W := 0) rfl (by decide) (by decide) (by decide) (by decide) (hb hby d13_32) rfl rfl fun T10 L10 X10 M10 e10 => ?_
   have N10 := Fr.app N9 M10
   refine Run.x_sipush (q := 38) X10 hx (hb hby d13_35) (z := (255 : Int32)) rfl rfl ?_
   refine Run.x_icmpYes (q := 54) X10 hx (hb hby d13_38) (tlt hg).2.2.1 (by decide) (by decide) ?_
   refine Run.x_aload (q := 56) X10 hx (hb hby d13_54) rfl rfl rfl ?_
   replace A_ca := A_ca.keep K9 nin0
   replace Ad8 := Ad8.keep K9 nin0
   refine Run.retA X10 hx hlk e10 (t := (.array .byte)) hret rfl rfl rfl (hb hby d13_56) (by decide) (by decide) ?_
   exact ⟨np9, rfl, N10, KP, sz_np9, An9⟩
theorem d14_0 : decode jdk_52_method_15_code 0 = .ok (.iload_n 1, 1) := by decide +kernel
theorem d14_1 : decode jdk_52_method_15_code 1 = .ok (.aload_n 0, 1) := by decide +kernel
theorem d14_2 : decode jdk_52_method_15_code 2 = .ok (.arraylength, 1) := by decide +kernel
theorem d14_3 : decode jdk_52_method_15_code 3 = .ok (.isub, 1) := by decide +kernel
theorem d14_4 : decode jdk_52_method_15_code 4 = .ok (.bipush 31, 2) := by decide +kernel
theorem d14_6 : decode jdk_52_method_15_code 6 = .ok (.iushr, 1) := by decide +kernel
theorem d14_7 : decode jdk_52_method_15_code 7 = .ok (.i2b, 1) := by decide +kernel
theorem d14_8 : decode jdk_52_method_15_code 8 = .ok (.ireturn, 1) := by decide +kernel
theorem ef_c_cfa (m : MethodId) (arr : Addr) (n : Int32) : entryFrame m #[(.ref arr), (.int n)] 2 = mkF m 0 #[.val (.ref arr), .val (.int n)] [] := by first | (simp [entryFrame, mkF, argsToLocals, Value.category]; done) | rfl
set_option maxRecDepth 65536 in
set_option maxHeartbeats 40000000 in
theorem c_cfa (l : Launch) (Z : State) (a0 : Array Value) (hw : ∀ d ∈ tables_1, d.before a0 Z = true) (arr : Addr) (n : Int32) (h0 : Heap) (n0 : Nat) (Z0 : n0 ≤ h0.size) (vs : List Value) (ln : Int32) (z : Int32) (A_arr : Ars Z h0 arr .byte vs) (hln : vs.length.toInt32 = ln) (hz : (((n - ln).toUInt32 >>> ((31 : Int32) &&& 31).toUInt32).toInt32).toInt8.toInt32 = z) :
  Ctr l Z (⟨"java/lang/StringUTF16", "coderFromArrayLen", "([BI)B"⟩ : MethodName) jdk_52_method_15_code 2 (some .byte) ({ frames := 0, cells := 0, slots := 0, locals := 0 } : Room) #[(.ref arr), (.int n)] h0 (PureI h0 n0 z) := by
 refine Ctr.of (plainFor_of_name pn_3) (fun m => ef_c_cfa m arr n) ?_
 intro p e s m below meth c T0 hx hby hml hown hnm hret hlk hZ e0 X0
 have N0 := Fr.nil n0
 replace hown : s.vm.findClass "java/lang/StringUTF16" = some m.cls := hown
 replace hml : c.maxLocals = 2 := hml
 refine Run.x_iloadN (q := 1) X0 hx (hb hby d14_0) rfl rfl ?_
 refine Run.x_aloadN (q := 2) X0 hx (hb hby d14_1) rfl rfl rfl ?_
 refine Run.y_alen (q := 3) X0 hx hZ e0 A_arr (z := ln) hln (hb hby d14_2) rfl ?_
 refine Run.x_isub (q := 4) X0 hx (hb hby d14_3) rfl rfl ?_
 refine Run.x_bipush (q := 6) X0 hx (hb hby d14_4) (z := (31 : Int32)) rfl rfl ?_
 refine Run.x_iushr (q := 7) X0 hx (hb hby d14_6) rfl rfl ?_
 refine Run.x_i2b (q := 8) X0 hx (hb hby d14_7) rfl rfl ?_
 refine Run.retN X0 hx hlk e0 (t := .byte) hret (by simp) (z' := (((n - ln).toUInt32 >>> ((31 : Int32) &&& 31).toUInt32).toInt32).toInt8.toInt32) (nar_b _) (hb hby d14_8) (by decide) (by decide) ?_
 exact PureI.mk (by exact hz) N0
theorem d15_0 : decode jdk_42_method_149_code 0 = .ok (.aload_n 0, 1) := by decide +kernel
theorem d15_1 : decode jdk_42_method_149_code 1 = .ok (.invokespecial 1, 3) := by decide +kernel
theorem d15_4 : decode jdk_42_method_149_code 4 = .ok (.iload_n 3, 1) := by decide +kernel
theorem d15_5 : decode jdk_42_method_149_code 5 = .ok (.ifCond .ne 22, 3) := by decide +kernel
theorem d15_8 : decode jdk_42_method_149_code 8 = .ok (.aload_n 0, 1) := by decide +kernel
theorem d15_9 : decode jdk_42_method_149_code 9 = .ok (.ldc 7, 2) := by decide +kernel
theorem d15_11 : decode jdk_42_method_149_code 11 = .ok (.getfield 9, 3) := by decide +kernel
theorem d15_14 : decode jdk_42_method_149_code 14 = .ok (.putfield 9, 3) := by decide +kernel
theorem d15_17 : decode jdk_42_method_149_code 17 = .ok (.aload_n 0, 1) := by decide +kernel
theorem d15_18 : decode jdk_42_method_149_code 18 = .ok (.ldc 7, 2) := by decide +kernel
theorem d15_20 : decode jdk_42_method_149_code 20 = .ok (.getfield 15, 3) := by decide +kernel
theorem d15_23 : decode jdk_42_method_149_code 23 = .ok (.putfield 15, 3) := by decide +kernel
theorem d15_26 : decode jdk_42_method_149_code 26 = .ok (.return_, 1) := by decide +kernel
theorem d15_27 : decode jdk_42_method_149_code 27 = .ok (.getstatic 38, 3) := by decide +kernel
theorem d15_30 : decode jdk_42_method_149_code 30 = .ok (.ifCond .eq 28, 3) := by decide +kernel
theorem d15_33 : decode jdk_42_method_149_code 33 = .ok (.aload_n 1, 1) := by decide +kernel
theorem d15_34 : decode jdk_42_method_149_code 34 = .ok (.iload_n 2, 1) := by decide +kernel
theorem d15_35 : decode jdk_42_method_149_code 35 = .ok (.iload_n 3, 1) := by decide +kernel
theorem d15_36 : decode jdk_42_method_149_code 36 = .ok (.invokestatic 177, 3) := by decide +kernel
theorem d15_39 : decode jdk_42_method_149_code 39 = .ok (.astore 5, 2) := by decide +kernel
theorem d15_41 : decode jdk_42_method_149_code 41 = .ok (.aload_n 0, 1) := by decide +kernel
theorem d15_42 : decode jdk_42_method_149_code 42 = .ok (.aload 5, 2) := by decide +kernel
theorem d15_44 : decode jdk_42_method_149_code 44 = .ok (.iload_n 3, 1) := by decide +kernel
theorem d15_45 : decode jdk_42_method_149_code 45 = .ok (.invokestatic 47, 3) := by decide +kernel
theorem d15_48 : decode jdk_42_method_149_code 48 = .ok (.putfield 15, 3) := by decide +kernel
theorem d15_51 : decode jdk_42_method_149_code 51 = .ok (.aload_n 0, 1) := by decide +kernel
theorem d15_52 : decode jdk_42_method_149_code 52 = .ok (.aload 5, 2) := by decide +kernel
theorem d15_54 : decode jdk_42_method_149_code 54 = .ok (.putfield 9, 3) := by decide +kernel
theorem d15_57 : decode jdk_42_method_149_code 57 = .ok (.return_, 1) := by decide +kernel
theorem d15_58 : decode jdk_42_method_149_code 58 = .ok (.aload_n 0, 1) := by decide +kernel
theorem d15_59 : decode jdk_42_method_149_code 59 = .ok (.iconst 1, 1) := by decide +kernel
theorem d15_60 : decode jdk_42_method_149_code 60 = .ok (.putfield 15, 3) := by decide +kernel
theorem d15_63 : decode jdk_42_method_149_code 63 = .ok (.aload_n 0, 1) := by decide +kernel
theorem d15_64 : decode jdk_42_method_149_code 64 = .ok (.aload_n 1, 1) := by decide +kernel
theorem d15_65 : decode jdk_42_method_149_code 65 = .ok (.iload_n 2, 1) := by decide +kernel
theorem d15_66 : decode jdk_42_method_149_code 66 = .ok (.iload_n 3, 1) := by decide +kernel
theorem d15_67 : decode jdk_42_method_149_code 67 = .ok (.invokestatic 180, 3) := by decide +kernel
theorem d15_70 : decode jdk_42_method_149_code 70 = .ok (.putfield 9, 3) := by decide +kernel
theorem d15_73 : decode jdk_42_method_149_code 73 = .ok (.return_, 1) := by decide +kernel
theorem ef_c_si4_1_0 (m : MethodId) (this : Addr) (pat : Addr) : entryFrame m #[(.ref this), (.ref pat), (.int 0), (.int 1), .null] 6 = mkF m 0 #[.val (.ref this), .val (.ref pat), .val (.int 0), .val (.int 1), .val .null, .unset] [] := by first | (simp [entryFrame, mkF, argsToLocals, Value.category]; done) | rfl
theorem wm16 {a0 : Array Value} {Z : State} (hw : ∀ d ∈ tables_1, d.before a0 Z = true) : (Jvm.Cond.methodLink "java/lang/String" (1 : Nat) ({ cls := "java/lang/Object", name := "<init>", desc := "()V" } : Jvm.MethodName)).before a0 Z = true := hw _ (List.mem_of_getElem? (i := 16) rfl)
theorem wm18 {a0 : Array Value} {Z : State} (hw : ∀ d ∈ tables_1, d.before a0 Z = true) : (Jvm.Cond.code ({ cls := "java/lang/Object", name := "<init>", desc := "()V" } : Jvm.MethodName) object_method_1_code (1 : Nat) (Option.none : Option Jvm.ClassFile.FieldType)).before a0 Z = true := hw _ (List.mem_of_getElem? (i := 18) rfl)
theorem wm17 {a0 : Array Value} {Z : State} (hw : ∀ d ∈ tables_1, d.before a0 Z = true) : (Jvm.Cond.instanceMethod ({ cls := "java/lang/Object", name := "<init>", desc := "()V" } : Jvm.MethodName)).before a0 Z = true := hw _ (List.mem_of_getElem? (i := 17) rfl)
theorem wm19 {a0 : Array Value} {Z : State} (hw : ∀ d ∈ tables_1, d.before a0 Z = true) : (Jvm.Cond.fieldLink "java/lang/String" (38 : Nat) "java/lang/String" "COMPACT_STRINGS" "Z").before a0 Z = true := hw _ (List.mem_of_getElem? (i := 19) rfl)
theorem wm20 {a0 : Array Value} {Z : State} (hw : ∀ d ∈ tables_1, d.before a0 Z = true) : (Jvm.Cond.methodLink "java/lang/String" (177 : Nat) ({ cls := "java/lang/StringUTF16", name := "compress", desc := "([CII)[B" } : Jvm.MethodName)).before a0 Z = true := hw _ (List.mem_of_getElem? (i := 20) rfl)
theorem wm23 {a0 : Array Value} {Z : State} (hw : ∀ d ∈ tables_1, d.before a0 Z = true) : (Jvm.Cond.code ({ cls := "java/lang/StringUTF16", name := "compress", desc := "([CII)[B" } : Jvm.MethodName) jdk_52_method_16_code (6 : Nat) (Option.some (Jvm.ClassFile.FieldType.array Jvm.ClassFile.FieldType.byte))).before a0 Z = true := hw _ (List.mem_of_getElem? (i := 23) rfl)
theorem wm21 {a0 : Array Value} {Z : State} (hw : ∀ d ∈ tables_1, d.before a0 Z = true) : (Jvm.Cond.static ({ cls := "java/lang/StringUTF16", name := "compress", desc := "([CII)[B" } : Jvm.MethodName)).before a0 Z = true := hw _ (List.mem_of_getElem? (i := 21) rfl)
theorem wm28 {a0 : Array Value} {Z : State} (hw : ∀ d ∈ tables_1, d.before a0 Z = true) : (Jvm.Cond.methodLink "java/lang/String" (47 : Nat) ({ cls := "java/lang/StringUTF16", name := "coderFromArrayLen", desc := "([BI)B" } : Jvm.MethodName)).before a0 Z = true := hw _ (List.mem_of_getElem? (i := 28) rfl)
theorem wm30 {a0 : Array Value} {Z : State} (hw : ∀ d ∈ tables_1, d.before a0 Z = true) : (Jvm.Cond.code ({ cls := "java/lang/StringUTF16", name := "coderFromArrayLen", desc := "([BI)B" } : Jvm.MethodName) jdk_52_method_15_code (2 : Nat) (Option.some Jvm.ClassFile.FieldType.byte)).before a0 Z = true := hw _ (List.mem_of_getElem? (i := 30) rfl)
theorem pd_10 : parseMethodDescriptor "([BI)B" = some ⟨[(.array .byte), .int], some .byte⟩ := by decide +kernel
theorem wm29 {a0 : Array Value} {Z : State} (hw : ∀ d ∈ tables_1, d.before a0 Z = true) : (Jvm.Cond.static ({ cls := "java/lang/StringUTF16", name := "coderFromArrayLen", desc := "([BI)B" } : Jvm.MethodName)).before a0 Z = true := hw _ (List.mem_of_getElem? (i := 29) rfl)
theorem wm31 {a0 : Array Value} {Z : State} (hw : ∀ d ∈ tables_1, d.before a0 Z = true) : (Jvm.Cond.fieldLink "java/lang/String" (15 : Nat) "java/lang/String" "coder" "B").before a0 Z = true := hw _ (List.mem_of_getElem? (i := 31) rfl)
theorem wm32 {a0 : Array Value} {Z : State} (hw : ∀ d ∈ tables_1, d.before a0 Z = true) : (Jvm.Cond.laysFinal "java/lang/String" "java/lang/String" "coder" "B").before a0 Z = true := hw _ (List.mem_of_getElem? (i := 32) rfl)
theorem wm7 {a0 : Array Value} {Z : State} (hw : ∀ d ∈ tables_1, d.before a0 Z = true) : (Jvm.Cond.instantiable "java/lang/String" (4 : Nat)).before a0 Z = true := hw _ (List.mem_of_getElem? (i := 7) rfl)
theorem wm33 {a0 : Array Value} {Z : State} (hw : ∀ d ∈ tables_1, d.before a0 Z = true) : (Jvm.Cond.fieldLink "java/lang/String" (9 : Nat) "java/lang/String" "value" "[B").before a0 Z = true := hw _ (List.mem_of_getElem? (i := 33) rfl)
theorem wm34 {a0 : Array Value} {Z : State} (hw : ∀ d ∈ tables_1, d.before a0 Z = true) : (Jvm.Cond.laysFinal "java/lang/String" "java/lang/String" "value" "[B").before a0 Z = true := hw _ (List.mem_of_getElem? (i := 34) rfl)
set_option maxRecDepth 65536 in
set_option maxHeartbeats 40000000 in
theorem c_si4_1_0 (l : Launch) (Z : State) (a0 : Array Value) (hw : ∀ d ∈ tables_1, d.before a0 Z = true) (this : Addr) (pat : Addr) (h0 : Heap) (n0 : Nat) (Z0 : n0 ≤ h0.size) (cp : Int32) (c0 : Int32) (E_this : Exa Z h0 this "java/lang/String") (F_this_value : Fld Z h0 this "java/lang/String" "value" "[B" .null) (F_this_coder : Fld Z h0 this "java/lang/String" "coder" "B" (.int 0)) (A_pat : Ars Z h0 pat .char [(.int c0)]) (S_COMPACT_STRINGS : Sta Z h0 "java/lang/String" "COMPACT_STRINGS" "Z" (.int cp)) (g_this : n0 ≤ this) (ne_this_pat : this ≠ pat) (hcp : ¬ cp = (0 : Int32)) (ha0 : ¬ (255 : Int32) < c0) (hr0 : 0 ≤ c0.toInt ∧ c0.toInt < 65536) :
  Ctr l Z (⟨"java/lang/String", "<init>", "([CIILjava/lang/Void;)V"⟩ : MethodName) jdk_42_method_149_code 6 none ({ frames := 2, cells := 1, slots := 1, locals := 35 } : Room) #[(.ref this), (.ref pat), (.int 0), (.int 1), .null] h0 (fun v h L => ∃ b : Addr, v = none ∧ Fr n0 L ∧ Keep h0 h [this] ∧ Exa Z h this "java/lang/String" ∧ Fld Z h this "java/lang/String" "value" "[B" (.ref b) ∧ Fld Z h this "java/lang/String" "coder" "B" (.int 0) ∧ Ars Z h b .byte [(.int c0.toInt8.toInt32)]) := by
 refine Ctr.of (plainFor_of_name pn_1) (fun m => ef_c_si4_1_0 m this pat) ?_
 intro p e s m below meth c T0 hx hby hml hown hnm hret hlk hZ e0 X0
 have N0 := Fr.nil n0
 replace hown : s.vm.findClass "java/lang/String" = some m.cls := hown
 replace hml : c.maxLocals = 6 := hml
 have KP := Keep.refl h0 [this]
 refine Run.x_aloadN (q := 1) X0 hx (hb hby d15_0) rfl rfl rfl ?_
 refine Run.init X0 hx hZ e0 hown (wm16 hw) (wm17 hw) (wm18 hw) (by rw [hml]; rfl) (hb hby d15_1) (by decide) (W := 0) rfl (by decide) ?_
 intro T1 X1 e1
 show Run p e below s _ _ _ (T1.setTop (mkF m 4 #[.val (.ref this), .val (.ref pat), .val (.int 0), .val (.int 1), .val .null, .unset] []))
 refine Run.x_iloadN (q := 5) X1 hx (hb hby d15_4) rfl rfl ?_
 refine Run.x_ifYes (q := 27) X1 hx (hb hby d15_5) ((if0 _ _).trans (feq (by decide : ¬ ((1 : Int32) = (0 : Int32)))).2) (by decide) (by decide) ?_
 obtain ⟨T2, X2, e2, st2⟩ := getS2 X1 hx hZ hown (host := "") (Or.inl (wm19 hw)) Via.refl e1 S_COMPACT_STRINGS (g := (mkF m 27 #[.val (.ref this), .val (.ref pat), .val (.int 0), .val (.int 1), .val .null, .unset] [])) rfl (hb hby d15_27)
 refine Run.st st2 ?_
 show Run p e below s _ _ _ (T2.setTop (mkF m 30 #[.val (.ref this), .val (.ref pat), .val (.int 0), .val (.int 1), .val .null, .unset] [(.int cp)]))
 refine Run.x_ifNo (q := 33) X2 hx (hb hby d15_30) ((if0 _ _).trans (feq hcp).1) rfl ?_
 refine Run.x_aloadN (q := 34) X2 hx (hb hby d15_33) rfl rfl rfl ?_
 refine Run.x_iloadN (q := 35) X2 hx (hb hby d15_34) rfl rfl ?_
 refine Run.x_iloadN (q := 36) X2 hx (hb hby d15_35) rfl rfl ?_
 refine Run.callS X2 hx hZ e2 (y := (⟨"java/lang/StringUTF16", "compress", "([CII)[B"⟩ : MethodName)) hown (wm20 hw) (wm21 hw) (wm22 hw) (wm23 hw) (by decide) (argsL := [(.ref pat), (.int 0), (.int 1)]) (rest := []) (c_cm3_1_0 l Z a0 hw pat h0 n0 Z0 c0 A_pat ha0 hr0) pd_9 rfl (by rw [hml]; rfl) (W := 0) rfl (by decide) (by decide) (by decide) (by decide) (hb hby d15_36) rfl ?_
 intro T3 v3 L3 X3 q3
 obtain ⟨np3, rfl, M3, K3, sz3, An3⟩ := q3
 have N3 := Fr.app N0 M3
 show Run p e below s _ _ _ (T3.setTop (mkF m 39 #[.val (.ref this), .val (.ref pat), .val (.int 0), .val (.int 1), .val .null, .unset] [(.ref np3)]))
 have ne_this_np3 : this ≠ np3 := Nat.ne_of_lt (Nat.lt_of_lt_of_le E_this.lt sz3)
 have ne_pat_np3 : pat ≠ np3 := Nat.ne_of_lt (Nat.lt_of_lt_of_le A_pat.lt sz3)
 have g_np3 : n0 ≤ np3 := Nat.le_trans Z0 sz3
 have sz_np3 : h0.size ≤ np3 := Nat.le_trans KP.1 sz3
 replace S_COMPACT_STRINGS := Sta_keep S_COMPACT_STRINGS K3 all0
 have Z3 : n0 ≤ T3.heap.size := Nat.le_trans Z0 K3.1
 replace KP := KP.trans K3 all0
 refine Run.x_astore (q := 41) X3 hx #[.val (.ref this), .val (.ref pat), .val (.int 0), .val (.int 1), .val .null, .val (.ref np3)] (hb hby d15_39) rfl rfl rfl ?_
 refine Run.x_aloadN (q := 42) X3 hx (hb hby d15_41) rfl rfl rfl ?_
 refine Run.x_aload (q := 44) X3 hx (hb hby d15_42) rfl rfl rfl ?_
 refine Run.x_iloadN (q := 45) X3 hx (hb hby d15_44) rfl rfl ?_
 refine Run.callSI (q := 48) X3 hx hZ rfl (y := (⟨"java/lang/StringUTF16", "coderFromArrayLen", "([BI)B"⟩ : MethodName)) hown (wm28 hw) (wm29 hw) (wm22 hw) (wm30 hw) (by decide) (argsL := [(.ref np3), (.int 1)]) (rest := [(.ref this)]) (c_cfa l Z a0 hw np3 (1 : Int32) T3.heap n0 Z3 [(.int c0.toInt8.toInt32)] (1 : Int32) (0 : Int32) An3 rfl (by decide)) pd_10 rfl (by rw [hml]; rfl) (W := 1) rfl (by decide) (by decide) (by decide) (by decide) (hb hby d15_45) rfl rfl fun T4 L4 X4 M4 e4 => ?_
 have N4 := Fr.app N3 M4
 replace F_this_coder := F_this_coder.keep K3 nin0
 replace E_this := E_this.keep K3
 obtain ⟨T5, h5, X5, e5, W5, st5⟩ := putFN X4 hx hZ hown (wm31 hw) Via.refl e4 F_this_coder E_this (Or.inr ⟨(wm32 hw), rfl, hnm⟩) (wm7 hw) (ty := .byte) (v' := (.int 0)) (by decide) rfl (by decide) (g := (mkF m 48 #[.val (.ref this), .val (.ref pat), .val (.int 0), .val (.int 1), .val .null, .val (.ref np3)] [(.int 0), (.ref this)])) rfl rfl (hb hby d15_48)
 replace F_this_coder := F_this_coder.same W5
 have Z5 : n0 ≤ h5.size := Nat.le_trans Z3 (Nat.le_of_eq W5.size.symm)
 replace KP := KP.wr W5 (Or.inl (by simp))
 have N5 := Fr.snoc X5 N4 g_this
 refine Run.st st5 ?_
 show Run p e below s _ _ _ (T5.setTop (mkF m 51 #[.val (.ref this), .val (.ref pat), .val (.int 0), .val (.int 1), .val .null, .val (.ref np3)] []))
 refine Run.x_aloadN (q := 52) X5 hx (hb hby d15_51) rfl rfl rfl ?_
 refine Run.x_aload (q := 54) X5 hx (hb hby d15_52) rfl rfl rfl ?_
 replace F_this_value := (F_this_value.keep K3 nin0).other W5 (Or.inr (slot_ne (Or.inr (wm34 hw)) (Or.inr (wm32 hw)) (by decide) (t := (.array .byte)) (t' := .byte) (by decide) (by decide)))
 replace E_this := E_this.wr W5
 obtain ⟨T6, h6, X6, e6, W6, st6⟩ := putF X5 hx hZ hown (host := "") (Or.inl (wm33 hw)) Via.refl e5 F_this_value E_this (Or.inr ⟨(wm34 hw), rfl, hnm⟩) (wm7 hw) (ty := (.array .byte)) (by decide) rfl rfl (g := (mkF m 54 #[.val (.ref this), .val (.ref pat), .val (.int 0), .val (.int 1), .val .null, .val (.ref np3)] [(.ref np3), (.ref this)])) rfl rfl (hb hby d15_54)
 replace F_this_value := F_this_value.same W6
 have Z6 : n0 ≤ h6.size := Nat.le_trans Z5 (Nat.le_of_eq W6.size.symm)
 replace KP := KP.wr W6 (Or.inl (by simp))
 have N6 := Fr.snoc X6 N5 g_this
 refine Run.st st6 ?_
 show Run p e below s _ _ _ (T6.setTop (mkF m 57 #[.val (.ref this), .val (.ref pat), .val (.int 0), .val (.int 1), .val .null, .val (.ref np3)] []))
 replace E_this := E_this.wr W6
 replace F_this_coder := F_this_coder.other W6 (Or.inr (slot_ne (Or.inr (wm32 hw)) (Or.inr (wm34 hw)) (by decide) (t := .byte) (t' := (.array .byte)) (by decide) (by decide)))
 replace A_pat := ((A_pat.keep K3 nin0).other W5 (Ne.symm ne_this_pat)).other W6 (Ne.symm ne_this_pat)
 replace S_COMPACT_STRINGS := (S_COMPACT_STRINGS.wr W5).wr W6
 replace An3 := (An3.other W5 (Ne.symm ne_this_np3)).other W6 (Ne.symm ne_this_np3)
 refine Run.retV X6 hx hlk e6 hret (hb hby d15_57) (by decide) (by decide) ?_
 exact ⟨np3, rfl, N6, KP, E_this, F_this_value, F_this_coder, An3⟩
theorem d16_0 : decode jdk_42_method_3_code 0 = .ok (.aload_n 0, 1) := by decide +kernel
theorem d16_1 : decode jdk_42_method_3_code 1 = .ok (.aload_n 1, 1) := by decide +kernel
theorem d16_2 : decode jdk_42_method_3_code 2 = .ok (.iconst 0, 1) := by decide +kernel
theorem d16_3 : decode jdk_42_method_3_code 3 = .ok (.aload_n 1, 1) := by decide +kernel
theorem d16_4 : decode jdk_42_method_3_code 4 = .ok (.arraylength, 1) := by decide +kernel
theorem d16_5 : decode jdk_42_method_3_code 5 = .ok (.aconst_null, 1) := by decide +kernel
theorem d16_6 : decode jdk_42_method_3_code 6 = .ok (.invokespecial 27, 3) := by decide +kernel
theorem d16_9 : decode jdk_42_method_3_code 9 = .ok (.return_, 1) := by decide +kernel
theorem ef_c_si1_1_0 (m : MethodId) (this : Addr) (pat : Addr) : entryFrame m #[(.ref this), (.ref pat)] 2 = mkF m 0 #[.val (.ref this), .val (.ref pat)] [] := by first | (simp [entryFrame, mkF, argsToLocals, Value.category]; done) | rfl
theorem wm12 {a0 : Array Value} {Z : State} (hw : ∀ d ∈ tables_1, d.before a0 Z = true) : (Jvm.Cond.methodLink "java/lang/String" (27 : Nat) ({ cls := "java/lang/String", name := "<init>", desc := "([CIILjava/lang/Void;)V" } : Jvm.MethodName)).before a0 Z = true := hw _ (List.mem_of_getElem? (i := 12) rfl)
theorem wm15 {a0 : Array Value} {Z : State} (hw : ∀ d ∈ tables_1, d.before a0 Z = true) : (Jvm.Cond.code ({ cls := "java/lang/String", name := "<init>", desc := "([CIILjava/lang/Void;)V" } : Jvm.MethodName) jdk_42_method_149_code (6 : Nat) (Option.none : Option Jvm.ClassFile.FieldType)).before a0 Z = true := hw _ (List.mem_of_getElem? (i := 15) rfl)
theorem pd_11 : parseMethodDescriptor "([CIILjava/lang/Void;)V" = some ⟨[(.array .char), .int, .int, (.object "java/lang/Void")], none⟩ := by decide +kernel
theorem wm13 {a0 : Array Value} {Z : State} (hw : ∀ d ∈ tables_1, d.before a0 Z = true) : (Jvm.Cond.instanceMethod ({ cls := "java/lang/String", name := "<init>", desc := "([CIILjava/lang/Void;)V" } : Jvm.MethodName)).before a0 Z = true := hw _ (List.mem_of_getElem? (i := 13) rfl)
set_option maxRecDepth 65536 in
set_option maxHeartbeats 40000000 in
theorem c_si1_1_0 (l : Launch) (Z : State) (a0 : Array Value) (hw : ∀ d ∈ tables_1, d.before a0 Z = true) (this : Addr) (pat : Addr) (h0 : Heap) (n0 : Nat) (Z0 : n0 ≤ h0.size) (cp : Int32) (c0 : Int32) (E_this : Exa Z h0 this "java/lang/String") (F_this_value : Fld Z h0 this "java/lang/String" "value" "[B" .null) (F_this_coder : Fld Z h0 this "java/lang/String" "coder" "B" (.int 0)) (A_pat : Ars Z h0 pat .char [(.int c0)]) (S_COMPACT_STRINGS : Sta Z h0 "java/lang/String" "COMPACT_STRINGS" "Z" (.int cp)) (g_this : n0 ≤ this) (ne_this_pat : this ≠ pat) (hcp : ¬ cp = (0 : Int32)) (ha0 : ¬ (255 : Int32) < c0) (hr0 : 0 ≤ c0.toInt ∧ c0.toInt < 65536) :
  Ctr l Z (⟨"java/lang/String", "<init>", "([C)V"⟩ : MethodName) jdk_42_method_3_code 2 none ({ frames := 3, cells := 1, slots := 1, locals := 52 } : Room) #[(.ref this), (.ref pat)] h0 (fun v h L => ∃ b : Addr, v = none ∧ Fr n0 L ∧ Keep h0 h [this] ∧ Exa Z h this "java/lang/String" ∧ Fld Z h this "java/lang/String" "value" "[B" (.ref b) ∧ Fld Z h this "java/lang/String" "coder" "B" (.int 0) ∧ Ars Z h b .byte [(.int c0.toInt8.toInt32)]) := by
 refine Ctr.of (plainFor_of_name pn_1) (fun m => ef_c_si1_1_0 m this pat) ?_
 intro p e s m below meth c T0 hx hby hml hown hnm hret hlk hZ e0 X0
 have N0 := Fr.nil n0
 replace hown : s.vm.findClass "java/lang/String" = some m.cls := hown
 replace hml : c.maxLocals = 2 := hml
 have KP := Keep.refl h0 [this]
 refine Run.x_aloadN (q := 1) X0 hx (hb hby d16_0) rfl rfl rfl ?_
 refine Run.x_aloadN (q := 2) X0 hx (hb hby d16_1) rfl rfl rfl ?_
 refine Run.x_iconst (q := 3) X0 hx (hb hby d16_2) (z := (0 : Int32)) rfl rfl ?_
 refine Run.x_aloadN (q := 4) X0 hx (hb hby d16_3) rfl rfl rfl ?_
 refine Run.y_alen (q := 5) X0 hx hZ e0 A_pat (z := (1 : Int32)) rfl (hb hby d16_4) rfl ?_
 refine Run.x_null (q := 6) X0 hx (hb hby d16_5)  rfl ?_
 refine Run.callC X0 hx hZ e0 (y := (⟨"java/lang/String", "<init>", "([CIILjava/lang/Void;)V"⟩ : MethodName)) hown rfl (wm12 hw) (wm13 hw) (wm8 hw) (wm15 hw) (by decide) (a := this) (argsL := [(.ref pat), (.int 0), (.int 1), .null]) (rest := []) (c_si4_1_0 l Z a0 hw this pat h0 n0 Z0 cp c0 E_this F_this_value F_this_coder A_pat S_COMPACT_STRINGS g_this ne_this_pat hcp ha0 hr0) pd_11 rfl (by rw [hml]; rfl) (W := 0) rfl (by decide) (by decide) (by decide) (by decide) (hb hby d16_6) rfl ?_
 intro T1 v1 L1 X1 q1
 obtain ⟨bt1, rfl, M1, K1, Es1, Fv1, Fc1, Ab1⟩ := q1
 have N1 := Fr.app N0 M1
 show Run p e below s _ _ _ (T1.setTop (mkF m 9 #[.val (.ref this), .val (.ref pat)] []))
 replace S_COMPACT_STRINGS := Sta_keep S_COMPACT_STRINGS K1 (allS (Exa_ns E_this) all0)
 have Z1 : n0 ≤ T1.heap.size := Nat.le_trans Z0 K1.1
 replace KP := KP.trans K1 (allS (Or.inl (by simp)) all0)
 replace A_pat := A_pat.keep K1 (ninS (Ne.symm ne_this_pat) nin0)
 refine Run.retV X1 hx hlk rfl hret (hb hby d16_9) (by decide) (by decide) ?_
 exact ⟨bt1, rfl, N1, KP, Es1, Fv1, Fc1, Ab1⟩
theorem d17_0 : decode method_2_code 0 = .ok (.iload_n 0, 1) := by decide +kernel
theorem d17_1 : decode method_2_code 1 = .ok (.ifCond .ne 14, 3) := by decide +kernel
theorem d17_4 : decode method_2_code 4 = .ok (.new 7, 3) := by decide +kernel
theorem d17_7 : decode method_2_code 7 = .ok (.dup, 1) := by decide +kernel
theorem d17_8 : decode method_2_code 8 = .ok (.iconst 0, 1) := by decide +kernel
theorem d17_9 : decode method_2_code 9 = .ok (.newarray .char, 2) := by decide +kernel
theorem d17_11 : decode method_2_code 11 = .ok (.invokespecial 9, 3) := by decide +kernel
theorem d17_14 : decode method_2_code 14 = .ok (.areturn, 1) := by decide +kernel
theorem d17_15 : decode method_2_code 15 = .ok (.iload_n 0, 1) := by decide +kernel
theorem d17_16 : decode method_2_code 16 = .ok (.iconst 1, 1) := by decide +kernel
theorem d17_17 : decode method_2_code 17 = .ok (.if_icmp .ne 18, 3) := by decide +kernel
theorem d17_20 : decode method_2_code 20 = .ok (.new 7, 3) := by decide +kernel
theorem d17_23 : decode method_2_code 23 = .ok (.dup, 1) := by decide +kernel
theorem d17_24 : decode method_2_code 24 = .ok (.iconst 1, 1) := by decide +kernel
theorem d17_25 : decode method_2_code 25 = .ok (.newarray .char, 2) := by decide +kernel
theorem d17_27 : decode method_2_code 27 = .ok (.dup, 1) := by decide +kernel
theorem d17_28 : decode method_2_code 28 = .ok (.iconst 0, 1) := by decide +kernel
theorem d17_29 : decode method_2_code 29 = .ok (.iload_n 1, 1) := by decide +kernel
theorem d17_30 : decode method_2_code 30 = .ok (.castore, 1) := by decide +kernel
theorem d17_31 : decode method_2_code 31 = .ok (.invokespecial 9, 3) := by decide +kernel
theorem d17_34 : decode method_2_code 34 = .ok (.areturn, 1) := by decide +kernel
theorem d17_35 : decode method_2_code 35 = .ok (.iload_n 0, 1) := by decide +kernel
theorem d17_36 : decode method_2_code 36 = .ok (.iconst 2, 1) := by decide +kernel
theorem d17_37 : decode method_2_code 37 = .ok (.if_icmp .ne 22, 3) := by decide +kernel
theorem d17_40 : decode method_2_code 40 = .ok (.new 7, 3) := by decide +kernel
theorem d17_43 : decode method_2_code 43 = .ok (.dup, 1) := by decide +kernel
theorem d17_44 : decode method_2_code 44 = .ok (.iconst 2, 1) := by decide +kernel
theorem d17_45 : decode method_2_code 45 = .ok (.newarray .char, 2) := by decide +kernel
theorem d17_47 : decode method_2_code 47 = .ok (.dup, 1) := by decide +kernel
theorem d17_48 : decode method_2_code 48 = .ok (.iconst 0, 1) := by decide +kernel
theorem d17_49 : decode method_2_code 49 = .ok (.iload_n 1, 1) := by decide +kernel
theorem d17_50 : decode method_2_code 50 = .ok (.castore, 1) := by decide +kernel
theorem d17_51 : decode method_2_code 51 = .ok (.dup, 1) := by decide +kernel
theorem d17_52 : decode method_2_code 52 = .ok (.iconst 1, 1) := by decide +kernel
theorem d17_53 : decode method_2_code 53 = .ok (.iload_n 2, 1) := by decide +kernel
theorem d17_54 : decode method_2_code 54 = .ok (.castore, 1) := by decide +kernel
theorem d17_55 : decode method_2_code 55 = .ok (.invokespecial 9, 3) := by decide +kernel
theorem d17_58 : decode method_2_code 58 = .ok (.areturn, 1) := by decide +kernel
theorem d17_59 : decode method_2_code 59 = .ok (.new 7, 3) := by decide +kernel
theorem d17_62 : decode method_2_code 62 = .ok (.dup, 1) := by decide +kernel
theorem d17_63 : decode method_2_code 63 = .ok (.iconst 3, 1) := by decide +kernel
theorem d17_64 : decode method_2_code 64 = .ok (.newarray .char, 2) := by decide +kernel
theorem d17_66 : decode method_2_code 66 = .ok (.dup, 1) := by decide +kernel
theorem d17_67 : decode method_2_code 67 = .ok (.iconst 0, 1) := by decide +kernel
theorem d17_68 : decode method_2_code 68 = .ok (.iload_n 1, 1) := by decide +kernel
theorem d17_69 : decode method_2_code 69 = .ok (.castore, 1) := by decide +kernel
theorem d17_70 : decode method_2_code 70 = .ok (.dup, 1) := by decide +kernel
theorem d17_71 : decode method_2_code 71 = .ok (.iconst 1, 1) := by decide +kernel
theorem d17_72 : decode method_2_code 72 = .ok (.iload_n 2, 1) := by decide +kernel
theorem d17_73 : decode method_2_code 73 = .ok (.castore, 1) := by decide +kernel
theorem d17_74 : decode method_2_code 74 = .ok (.dup, 1) := by decide +kernel
theorem d17_75 : decode method_2_code 75 = .ok (.iconst 2, 1) := by decide +kernel
theorem d17_76 : decode method_2_code 76 = .ok (.iload_n 3, 1) := by decide +kernel
theorem d17_77 : decode method_2_code 77 = .ok (.castore, 1) := by decide +kernel
theorem d17_78 : decode method_2_code 78 = .ok (.invokespecial 9, 3) := by decide +kernel
theorem d17_81 : decode method_2_code 81 = .ok (.areturn, 1) := by decide +kernel
theorem pn_4 : plainName "com/example/sayso/sayso/TextCursorAtPinLaw" = true := by first | (simp [plainName, overriddenIn]; done) | decide +kernel
theorem ef_c_mk_1_0 (m : MethodId) (c0 : Int32) (c1 : Int32) (c2 : Int32) : entryFrame m #[(.int 1), (.int c0), (.int c1), (.int c2)] 4 = mkF m 0 #[.val (.int 1), .val (.int c0), .val (.int c1), .val (.int c2)] [] := by first | (simp [entryFrame, mkF, argsToLocals, Value.category]; done) | rfl
theorem wm6 {a0 : Array Value} {Z : State} (hw : ∀ d ∈ tables_1, d.before a0 Z = true) : (Jvm.Cond.classLink "com/example/sayso/sayso/TextCursorAtPinLaw" (7 : Nat) "java/lang/String").before a0 Z = true := hw _ (List.mem_of_getElem? (i := 6) rfl)
theorem wm0 {a0 : Array Value} {Z : State} (hw : ∀ d ∈ tables_1, d.before a0 Z = true) : (Jvm.Cond.arrayClass Jvm.ClassFile.FieldType.char).before a0 Z = true := hw _ (List.mem_of_getElem? (i := 0) rfl)
theorem wm9 {a0 : Array Value} {Z : State} (hw : ∀ d ∈ tables_1, d.before a0 Z = true) : (Jvm.Cond.methodLink "com/example/sayso/sayso/TextCursorAtPinLaw" (9 : Nat) ({ cls := "java/lang/String", name := "<init>", desc := "([C)V" } : Jvm.MethodName)).before a0 Z = true := hw _ (List.mem_of_getElem? (i := 9) rfl)
theorem wm11 {a0 : Array Value} {Z : State} (hw : ∀ d ∈ tables_1, d.before a0 Z = true) : (Jvm.Cond.code ({ cls := "java/lang/String", name := "<init>", desc := "([C)V" } : Jvm.MethodName) jdk_42_method_3_code (2 : Nat) (Option.none : Option Jvm.ClassFile.FieldType)).before a0 Z = true := hw _ (List.mem_of_getElem? (i := 11) rfl)
theorem pd_12 : parseMethodDescriptor "([C)V" = some ⟨[(.array .char)], none⟩ := by decide +kernel
theorem wm10 {a0 : Array Value} {Z : State} (hw : ∀ d ∈ tables_1, d.before a0 Z = true) : (Jvm.Cond.instanceMethod ({ cls := "java/lang/String", name := "<init>", desc := "([C)V" } : Jvm.MethodName)).before a0 Z = true := hw _ (List.mem_of_getElem? (i := 10) rfl)
set_option maxRecDepth 65536 in
set_option maxHeartbeats 40000000 in
theorem c_mk_1_0 (l : Launch) (Z : State) (a0 : Array Value) (hw : ∀ d ∈ tables_1, d.before a0 Z = true) (c0 : Int32) (c1 : Int32) (c2 : Int32) (h0 : Heap) (n0 : Nat) (Z0 : n0 ≤ h0.size) (cp : Int32) (S_COMPACT_STRINGS : Sta Z h0 "java/lang/String" "COMPACT_STRINGS" "Z" (.int cp)) (hcp : ¬ cp = (0 : Int32)) (ha0 : ¬ (255 : Int32) < c0) (hr0 : 0 ≤ c0.toInt ∧ c0.toInt < 65536) (hr1 : 0 ≤ c1.toInt ∧ c1.toInt < 65536) (hr2 : 0 ≤ c2.toInt ∧ c2.toInt < 65536) :
  Ctr l Z (⟨"com/example/sayso/sayso/TextCursorAtPinLaw", "make", "(ICCC)Ljava/lang/String;"⟩ : MethodName) method_2_code 4 (some (.object "java/lang/String")) ({ frames := 4, cells := 3, slots := 6, locals := 66 } : Room) #[(.int 1), (.int c0), (.int c1), (.int c2)] h0 (fun v h L => ∃ b bts : Addr, v = some (.ref b) ∧ Fr n0 L ∧ Keep h0 h [] ∧ h0.size ≤ b ∧ Exa Z h b "java/lang/String" ∧ Fld Z h b "java/lang/String" "value" "[B" (.ref bts) ∧ Fld Z h b "java/lang/String" "coder" "B" (.int 0) ∧ Ars Z h bts .byte [(.int c0.toInt8.toInt32)]) := by
 refine Ctr.of (plainFor_of_name pn_4) (fun m => ef_c_mk_1_0 m c0 c1 c2) ?_
 intro p e s m below meth c T0 hx hby hml hown hnm hret hlk hZ e0 X0
 have N0 := Fr.nil n0
 replace hown : s.vm.findClass "com/example/sayso/sayso/TextCursorAtPinLaw" = some m.cls := hown
 replace hml : c.maxLocals = 4 := hml
 have KP := Keep.refl h0 []
 refine Run.x_iloadN (q := 1) X0 hx (hb hby d17_0) rfl rfl ?_
 refine Run.x_ifYes (q := 15) X0 hx (hb hby d17_1) ((if0 _ _).trans (feq (by decide : ¬ ((1 : Int32) = (0 : Int32)))).2) (by decide) (by decide) ?_
 refine Run.x_iloadN (q := 16) X0 hx (hb hby d17_15) rfl rfl ?_
 refine Run.x_iconst (q := 17) X0 hx (hb hby d17_16) (z := (1 : Int32)) rfl rfl ?_
 refine Run.x_icmpNo (q := 20) X0 hx (hb hby d17_17) (teq (by decide : (1 : Int32) = (1 : Int32))).2 rfl ?_
 obtain ⟨T1, h1, X1, e1, E1, A1, D1, -, st1⟩ := newO X0 hx hZ hown (wm6 hw) (wm7 hw) (wm8 hw) e0 (g := (mkF m 20 #[.val (.int 1), .val (.int c0), .val (.int c1), .val (.int c2)] [])) rfl (hb hby d17_20) (by decide) (by decide)
 obtain ⟨b1, gg1⟩ : ∃ z, z = h0.size := ⟨_, rfl⟩
 rw [← gg1] at A1 D1 st1
 have g_b1 : n0 ≤ b1 := Nat.le_trans Z0 (Nat.le_of_eq gg1.symm)
 have sz_b1 : h0.size ≤ b1 := Nat.le_trans KP.1 (Nat.le_of_eq gg1.symm)
 have Z1 : n0 ≤ h1.size := Nat.le_trans Z0 E1.1
 replace KP := KP.ext E1
 have E_b1 := A1
 have F_b1_coder : Fld Z h1 b1 "java/lang/String" "coder" "B" (.int 0) := D1 (Or.inr (wm32 hw)) (ty := .byte) (by decide)
 have F_b1_value : Fld Z h1 b1 "java/lang/String" "value" "[B" .null := D1 (Or.inr (wm34 hw)) (ty := (.array .byte)) (by decide)
 refine Run.st st1 ?_
 show Run p e below s _ _ _ (T1.setTop (mkF m 23 #[.val (.int 1), .val (.int c0), .val (.int c1), .val (.int c2)] [(.ref b1)]))
 refine Run.x_dup (q := 24) X1 hx (hb hby d17_23) rfl rfl ?_
 refine Run.x_iconst (q := 25) X1 hx (hb hby d17_24) (z := (1 : Int32)) rfl rfl ?_
 refine Run.newP (aty := .char) X1 hx hZ e1 (wm0 hw) (hb hby d17_25) (len := 1) (by decide) (by decide) (cap := 1) (by decide) (by decide) (by decide) (by decide) ?_
 intro T2 h2 b2 gg2 X2 e2 E2 A_b2
 have g_b2 : n0 ≤ b2 := Nat.le_trans Z1 (Nat.le_of_eq gg2.symm)
 have ne_b1_b2 : b1 ≠ b2 := Nat.ne_of_lt (Nat.lt_of_lt_of_le E_b1.lt (Nat.le_of_eq gg2.symm))
 have sz_b2 : h0.size ≤ b2 := Nat.le_trans KP.1 (Nat.le_of_eq gg2.symm)
 have Z2 : n0 ≤ h2.size := Nat.le_trans Z1 E2.1
 replace KP := KP.ext E2
 replace A_b2 : Ars Z h2 b2 .char [(.int 0)] := A_b2
 show Run p e below s _ _ _ (T2.setTop (mkF m 27 #[.val (.int 1), .val (.int c0), .val (.int c1), .val (.int c2)] [(.ref b2), (.ref b1), (.ref b1)]))
 refine Run.x_dup (q := 28) X2 hx (hb hby d17_27) rfl rfl ?_
 refine Run.x_iconst (q := 29) X2 hx (hb hby d17_28) (z := (0 : Int32)) rfl rfl ?_
 refine Run.x_iloadN (q := 30) X2 hx (hb hby d17_29) rfl rfl ?_
 refine Run.y_stC (q := 31) X2 hx hZ e2 A_b2 (i := 0) (by decide) (Nat.le_of_ble_eq_true rfl) (z' := c0) (own_nr hr0) (hb hby d17_30) rfl fun T3 h3 X3 e3 W3 A3 => ?_
 replace A_b2 : Ars Z h3 b2 .char [(.int c0)] := A3
 replace KP := KP.wr W3 (Or.inr sz_b2)
 have N3 := Fr.snoc X3 N0 g_b2
 have Z3 : n0 ≤ h3.size := Nat.le_trans Z2 (Nat.le_of_eq W3.size.symm)
 replace E_b1 := (E_b1.ext E2).wr W3
 replace F_b1_value := (F_b1_value.ext E2).other W3 (Or.inl ne_b1_b2)
 replace F_b1_coder := (F_b1_coder.ext E2).other W3 (Or.inl ne_b1_b2)
 replace S_COMPACT_STRINGS := ((S_COMPACT_STRINGS.ext E1).ext E2).wr W3
 refine Run.callC X3 hx hZ e3 (y := (⟨"java/lang/String", "<init>", "([C)V"⟩ : MethodName)) hown rfl (wm9 hw) (wm10 hw) (wm8 hw) (wm11 hw) (by decide) (a := b1) (argsL := [(.ref b2)]) (rest := [(.ref b1)]) (c_si1_1_0 l Z a0 hw b1 b2 h3 n0 Z3 cp c0 E_b1 F_b1_value F_b1_coder A_b2 S_COMPACT_STRINGS g_b1 ne_b1_b2 hcp ha0 hr0) pd_12 rfl (by rw [hml]; rfl) (W := 1) rfl (by decide) (by decide) (by decide) (by decide) (hb hby d17_31) rfl ?_
 intro T4 v4 L4 X4 q4
 obtain ⟨bt4, rfl, M4, K4, Es4, Fv4, Fc4, Ab4⟩ := q4
 have N4 := Fr.app N3 M4
 show Run p e below s _ _ _ (T4.setTop (mkF m 34 #[.val (.int 1), .val (.int c0), .val (.int c1), .val (.int c2)] [(.ref b1)]))
 replace S_COMPACT_STRINGS := Sta_keep S_COMPACT_STRINGS K4 (allS (Exa_ns E_b1) all0)
 have Z4 : n0 ≤ T4.heap.size := Nat.le_trans Z3 K4.1
 replace KP := KP.trans K4 (allS (Or.inr sz_b1) all0)
 replace A_b2 := A_b2.keep K4 (ninS (Ne.symm ne_b1_b2) nin0)
 refine Run.retA X4 hx hlk rfl (t := (.object "java/lang/String")) hret rfl rfl rfl (hb hby d17_34) (by decide) (by decide) ?_
 exact ⟨b1, bt4, rfl, N4, KP, sz_b1, Es4, Fv4, Fc4, Ab4⟩
theorem ef_c_si4_1_1 (m : MethodId) (this : Addr) (pat : Addr) : entryFrame m #[(.ref this), (.ref pat), (.int 0), (.int 1), .null] 6 = mkF m 0 #[.val (.ref this), .val (.ref pat), .val (.int 0), .val (.int 1), .val .null, .unset] [] := by first | (simp [entryFrame, mkF, argsToLocals, Value.category]; done) | rfl
set_option maxRecDepth 65536 in
set_option maxHeartbeats 40000000 in
theorem c_si4_1_1 (l : Launch) (Z : State) (a0 : Array Value) (hw : ∀ d ∈ tables_1, d.before a0 Z = true) (this : Addr) (pat : Addr) (h0 : Heap) (n0 : Nat) (Z0 : n0 ≤ h0.size) (cp : Int32) (c0 : Int32) (E_this : Exa Z h0 this "java/lang/String") (F_this_value : Fld Z h0 this "java/lang/String" "value" "[B" .null) (F_this_coder : Fld Z h0 this "java/lang/String" "coder" "B" (.int 0)) (A_pat : Ars Z h0 pat .char [(.int c0)]) (S_COMPACT_STRINGS : Sta Z h0 "java/lang/String" "COMPACT_STRINGS" "Z" (.int cp)) (S__assertionsDisabled : Sta Z h0 "java/lang/StringUTF16" "$assertionsDisabled" "Z" (.int 1)) (S_HI_BYTE_SHIFT : Sta Z h0 "java/lang/StringUTF16" "HI_BYTE_SHIFT" "I" (.int 0)) (S_LO_BYTE_SHIFT : Sta Z h0 "java/lang/StringUTF16" "LO_BYTE_SHIFT" "I" (.int 8)) (g_this : n0 ≤ this) (ne_this_pat : this ≠ pat) (hcp : ¬ cp = (0 : Int32)) (ha : (255 : Int32) < c0) (hr0 : 0 ≤ c0.toInt ∧ c0.toInt < 65536) :
  Ctr l Z (⟨"java/lang/String", "<init>", "([CIILjava/lang/Void;)V"⟩ : MethodName) jdk_42_method_149_code 6 none ({ frames := 4, cells := 2, slots := 3, locals := 57 } : Room) #[(.ref this), (.ref pat), (.int 0), (.int 1), .null] h0 (fun v h L => ∃ b : Addr, v = none ∧ Fr n0 L ∧ Keep h0 h [this] ∧ Exa Z h this "java/lang/String" ∧ Fld Z h this "java/lang/String" "value" "[B" (.ref b) ∧ Fld Z h this "java/lang/String" "coder" "B" (.int 1) ∧ Ars Z h b .byte [(.int (c0 >>> ((0 : Int32) &&& 31)).toInt8.toInt32), (.int (c0 >>> ((8 : Int32) &&& 31)).toInt8.toInt32)]) := by
 refine Ctr.of (plainFor_of_name pn_1) (fun m => ef_c_si4_1_1 m this pat) ?_
 intro p e s m below meth c T0 hx hby hml hown hnm hret hlk hZ e0 X0
 have N0 := Fr.nil n0
 replace hown : s.vm.findClass "java/lang/String" = some m.cls := hown
 replace hml : c.maxLocals = 6 := hml
 have KP := Keep.refl h0 [this]
 refine Run.x_aloadN (q := 1) X0 hx (hb hby d15_0) rfl rfl rfl ?_
 refine Run.init X0 hx hZ e0 hown (wm16 hw) (wm17 hw) (wm18 hw) (by rw [hml]; rfl) (hb hby d15_1) (by decide) (W := 0) rfl (by decide) ?_
 intro T1 X1 e1
 show Run p e below s _ _ _ (T1.setTop (mkF m 4 #[.val (.ref this), .val (.ref pat), .val (.int 0), .val (.int 1), .val .null, .unset] []))
 refine Run.x_iloadN (q := 5) X1 hx (hb hby d15_4) rfl rfl ?_
 refine Run.x_ifYes (q := 27) X1 hx (hb hby d15_5) ((if0 _ _).trans (feq (by decide : ¬ ((1 : Int32) = (0 : Int32)))).2) (by decide) (by decide) ?_
 obtain ⟨T2, X2, e2, st2⟩ := getS2 X1 hx hZ hown (host := "") (Or.inl (wm19 hw)) Via.refl e1 S_COMPACT_STRINGS (g := (mkF m 27 #[.val (.ref this), .val (.ref pat), .val (.int 0), .val (.int 1), .val .null, .unset] [])) rfl (hb hby d15_27)
 refine Run.st st2 ?_
 show Run p e below s _ _ _ (T2.setTop (mkF m 30 #[.val (.ref this), .val (.ref pat), .val (.int 0), .val (.int 1), .val .null, .unset] [(.int cp)]))
 refine Run.x_ifNo (q := 33) X2 hx (hb hby d15_30) ((if0 _ _).trans (feq hcp).1) rfl ?_
 refine Run.x_aloadN (q := 34) X2 hx (hb hby d15_33) rfl rfl rfl ?_
 refine Run.x_iloadN (q := 35) X2 hx (hb hby d15_34) rfl rfl ?_
 refine Run.x_iloadN (q := 36) X2 hx (hb hby d15_35) rfl rfl ?_
 refine Run.callS X2 hx hZ e2 (y := (⟨"java/lang/StringUTF16", "compress", "([CII)[B"⟩ : MethodName)) hown (wm20 hw) (wm21 hw) (wm22 hw) (wm23 hw) (by decide) (argsL := [(.ref pat), (.int 0), (.int 1)]) (rest := []) (c_cm3_1_1 l Z a0 hw pat h0 n0 Z0 c0 A_pat S__assertionsDisabled S_HI_BYTE_SHIFT S_LO_BYTE_SHIFT ha hr0) pd_9 rfl (by rw [hml]; rfl) (W := 0) rfl (by decide) (by decide) (by decide) (by decide) (hb hby d15_36) rfl ?_
 intro T3 v3 L3 X3 q3
 obtain ⟨np3, rfl, M3, K3, sz3, An3⟩ := q3
 have N3 := Fr.app N0 M3
 show Run p e below s _ _ _ (T3.setTop (mkF m 39 #[.val (.ref this), .val (.ref pat), .val (.int 0), .val (.int 1), .val .null, .unset] [(.ref np3)]))
 have ne_this_np3 : this ≠ np3 := Nat.ne_of_lt (Nat.lt_of_lt_of_le E_this.lt sz3)
 have ne_pat_np3 : pat ≠ np3 := Nat.ne_of_lt (Nat.lt_of_lt_of_le A_pat.lt sz3)
 have g_np3 : n0 ≤ np3 := Nat.le_trans Z0 sz3
 have sz_np3 : h0.size ≤ np3 := Nat.le_trans KP.1 sz3
 replace S_COMPACT_STRINGS := Sta_keep S_COMPACT_STRINGS K3 all0
 replace S__assertionsDisabled := Sta_keep S__assertionsDisabled K3 all0
 replace S_HI_BYTE_SHIFT := Sta_keep S_HI_BYTE_SHIFT K3 all0
 replace S_LO_BYTE_SHIFT := Sta_keep S_LO_BYTE_SHIFT K3 all0
 have Z3 : n0 ≤ T3.heap.size := Nat.le_trans Z0 K3.1
 replace KP := KP.trans K3 all0
 refine Run.x_astore (q := 41) X3 hx #[.val (.ref this), .val (.ref pat), .val (.int 0), .val (.int 1), .val .null, .val (.ref np3)] (hb hby d15_39) rfl rfl rfl ?_
 refine Run.x_aloadN (q := 42) X3 hx (hb hby d15_41) rfl rfl rfl ?_
 refine Run.x_aload (q := 44) X3 hx (hb hby d15_42) rfl rfl rfl ?_
 refine Run.x_iloadN (q := 45) X3 hx (hb hby d15_44) rfl rfl ?_
 refine Run.callSI (q := 48) X3 hx hZ rfl (y := (⟨"java/lang/StringUTF16", "coderFromArrayLen", "([BI)B"⟩ : MethodName)) hown (wm28 hw) (wm29 hw) (wm22 hw) (wm30 hw) (by decide) (argsL := [(.ref np3), (.int 1)]) (rest := [(.ref this)]) (c_cfa l Z a0 hw np3 (1 : Int32) T3.heap n0 Z3 [(.int (c0 >>> ((0 : Int32) &&& 31)).toInt8.toInt32), (.int (c0 >>> ((8 : Int32) &&& 31)).toInt8.toInt32)] (2 : Int32) (1 : Int32) An3 rfl (by decide)) pd_10 rfl (by rw [hml]; rfl) (W := 1) rfl (by decide) (by decide) (by decide) (by decide) (hb hby d15_45) rfl rfl fun T4 L4 X4 M4 e4 => ?_
 have N4 := Fr.app N3 M4
 replace F_this_coder := F_this_coder.keep K3 nin0
 replace E_this := E_this.keep K3
 obtain ⟨T5, h5, X5, e5, W5, st5⟩ := putFN X4 hx hZ hown (wm31 hw) Via.refl e4 F_this_coder E_this (Or.inr ⟨(wm32 hw), rfl, hnm⟩) (wm7 hw) (ty := .byte) (v' := (.int 1)) (by decide) rfl (by decide) (g := (mkF m 48 #[.val (.ref this), .val (.ref pat), .val (.int 0), .val (.int 1), .val .null, .val (.ref np3)] [(.int 1), (.ref this)])) rfl rfl (hb hby d15_48)
 replace F_this_coder := F_this_coder.same W5
 have Z5 : n0 ≤ h5.size := Nat.le_trans Z3 (Nat.le_of_eq W5.size.symm)
 replace KP := KP.wr W5 (Or.inl (by simp))
 have N5 := Fr.snoc X5 N4 g_this
 refine Run.st st5 ?_
 show Run p e below s _ _ _ (T5.setTop (mkF m 51 #[.val (.ref this), .val (.ref pat), .val (.int 0), .val (.int 1), .val .null, .val (.ref np3)] []))
 refine Run.x_aloadN (q := 52) X5 hx (hb hby d15_51) rfl rfl rfl ?_
 refine Run.x_aload (q := 54) X5 hx (hb hby d15_52) rfl rfl rfl ?_
 replace F_this_value := (F_this_value.keep K3 nin0).other W5 (Or.inr (slot_ne (Or.inr (wm34 hw)) (Or.inr (wm32 hw)) (by decide) (t := (.array .byte)) (t' := .byte) (by decide) (by decide)))
 replace E_this := E_this.wr W5
 obtain ⟨T6, h6, X6, e6, W6, st6⟩ := putF X5 hx hZ hown (host := "") (Or.inl (wm33 hw)) Via.refl e5 F_this_value E_this (Or.inr ⟨(wm34 hw), rfl, hnm⟩) (wm7 hw) (ty := (.array .byte)) (by decide) rfl rfl (g := (mkF m 54 #[.val (.ref this), .val (.ref pat), .val (.int 0), .val (.int 1), .val .null, .val (.ref np3)] [(.ref np3), (.ref this)])) rfl rfl (hb hby d15_54)
 replace F_this_value := F_this_value.same W6
 have Z6 : n0 ≤ h6.size := Nat.le_trans Z5 (Nat.le_of_eq W6.size.symm)
 replace KP := KP.wr W6 (Or.inl (by simp))
 have N6 := Fr.snoc X6 N5 g_this
 refine Run.st st6 ?_
 show Run p e below s _ _ _ (T6.setTop (mkF m 57 #[.val (.ref this), .val (.ref pat), .val (.int 0), .val (.int 1), .val .null, .val (.ref np3)] []))
 replace E_this := E_this.wr W6
 replace F_this_coder := F_this_coder.other W6 (Or.inr (slot_ne (Or.inr (wm32 hw)) (Or.inr (wm34 hw)) (by decide) (t := .byte) (t' := (.array .byte)) (by decide) (by decide)))
 replace A_pat := ((A_pat.keep K3 nin0).other W5 (Ne.symm ne_this_pat)).other W6 (Ne.symm ne_this_pat)
 replace S_COMPACT_STRINGS := (S_COMPACT_STRINGS.wr W5).wr W6
 replace S__assertionsDisabled := (S__assertionsDisabled.wr W5).wr W6
 replace S_HI_BYTE_SHIFT := (S_HI_BYTE_SHIFT.wr W5).wr W6
 replace S_LO_BYTE_SHIFT := (S_LO_BYTE_SHIFT.wr W5).wr W6
 replace An3 := (An3.other W5 (Ne.symm ne_this_np3)).other W6 (Ne.symm ne_this_np3)
 refine Run.retV X6 hx hlk e6 hret (hb hby d15_57) (by decide) (by decide) ?_
 exact ⟨np3, rfl, N6, KP, E_this, F_this_value, F_this_coder, An3⟩
theorem ef_c_si1_1_1 (m : MethodId) (this : Addr) (pat : Addr) : entryFrame m #[(.ref this), (.ref pat)] 2 = mkF m 0 #[.val (.ref this), .val (.ref pat)] [] := by first | (simp [entryFrame, mkF, argsToLocals, Value.category]; done) | rfl
set_option maxRecDepth 65536 in
set_option maxHeartbeats 40000000 in
theorem c_si1_1_1 (l : Launch) (Z : State) (a0 : Array Value) (hw : ∀ d ∈ tables_1, d.before a0 Z = true) (this : Addr) (pat : Addr) (h0 : Heap) (n0 : Nat) (Z0 : n0 ≤ h0.size) (cp : Int32) (c0 : Int32) (E_this : Exa Z h0 this "java/lang/String") (F_this_value : Fld Z h0 this "java/lang/String" "value" "[B" .null) (F_this_coder : Fld Z h0 this "java/lang/String" "coder" "B" (.int 0)) (A_pat : Ars Z h0 pat .char [(.int c0)]) (S_COMPACT_STRINGS : Sta Z h0 "java/lang/String" "COMPACT_STRINGS" "Z" (.int cp)) (S__assertionsDisabled : Sta Z h0 "java/lang/StringUTF16" "$assertionsDisabled" "Z" (.int 1)) (S_HI_BYTE_SHIFT : Sta Z h0 "java/lang/StringUTF16" "HI_BYTE_SHIFT" "I" (.int 0)) (S_LO_BYTE_SHIFT : Sta Z h0 "java/lang/StringUTF16" "LO_BYTE_SHIFT" "I" (.int 8)) (g_this : n0 ≤ this) (ne_this_pat : this ≠ pat) (hcp : ¬ cp = (0 : Int32)) (ha : (255 : Int32) < c0) (hr0 : 0 ≤ c0.toInt ∧ c0.toInt < 65536) :
  Ctr l Z (⟨"java/lang/String", "<init>", "([C)V"⟩ : MethodName) jdk_42_method_3_code 2 none ({ frames := 5, cells := 2, slots := 3, locals := 74 } : Room) #[(.ref this), (.ref pat)] h0 (fun v h L => ∃ b : Addr, v = none ∧ Fr n0 L ∧ Keep h0 h [this] ∧ Exa Z h this "java/lang/String" ∧ Fld Z h this "java/lang/String" "value" "[B" (.ref b) ∧ Fld Z h this "java/lang/String" "coder" "B" (.int 1) ∧ Ars Z h b .byte [(.int (c0 >>> ((0 : Int32) &&& 31)).toInt8.toInt32), (.int (c0 >>> ((8 : Int32) &&& 31)).toInt8.toInt32)]) := by
 refine Ctr.of (plainFor_of_name pn_1) (fun m => ef_c_si1_1_1 m this pat) ?_
 intro p e s m below meth c T0 hx hby hml hown hnm hret hlk hZ e0 X0
 have N0 := Fr.nil n0
 replace hown : s.vm.findClass "java/lang/String" = some m.cls := hown
 replace hml : c.maxLocals = 2 := hml
 have KP := Keep.refl h0 [this]
 refine Run.x_aloadN (q := 1) X0 hx (hb hby d16_0) rfl rfl rfl ?_
 refine Run.x_aloadN (q := 2) X0 hx (hb hby d16_1) rfl rfl rfl ?_
 refine Run.x_iconst (q := 3) X0 hx (hb hby d16_2) (z := (0 : Int32)) rfl rfl ?_
 refine Run.x_aloadN (q := 4) X0 hx (hb hby d16_3) rfl rfl rfl ?_
 refine Run.y_alen (q := 5) X0 hx hZ e0 A_pat (z := (1 : Int32)) rfl (hb hby d16_4) rfl ?_
 refine Run.x_null (q := 6) X0 hx (hb hby d16_5)  rfl ?_
 refine Run.callC X0 hx hZ e0 (y := (⟨"java/lang/String", "<init>", "([CIILjava/lang/Void;)V"⟩ : MethodName)) hown rfl (wm12 hw) (wm13 hw) (wm8 hw) (wm15 hw) (by decide) (a := this) (argsL := [(.ref pat), (.int 0), (.int 1), .null]) (rest := []) (c_si4_1_1 l Z a0 hw this pat h0 n0 Z0 cp c0 E_this F_this_value F_this_coder A_pat S_COMPACT_STRINGS S__assertionsDisabled S_HI_BYTE_SHIFT S_LO_BYTE_SHIFT g_this ne_this_pat hcp ha hr0) pd_11 rfl (by rw [hml]; rfl) (W := 0) rfl (by decide) (by decide) (by decide) (by decide) (hb hby d16_6) rfl ?_
 intro T1 v1 L1 X1 q1
 obtain ⟨bt1, rfl, M1, K1, Es1, Fv1, Fc1, Ab1⟩ := q1
 have N1 := Fr.app N0 M1
 show Run p e below s _ _ _ (T1.setTop (mkF m 9 #[.val (.ref this), .val (.ref pat)] []))
 replace S_COMPACT_STRINGS := Sta_keep S_COMPACT_STRINGS K1 (allS (Exa_ns E_this) all0)
 replace S__assertionsDisabled := Sta_keep S__assertionsDisabled K1 (allS (Exa_ns E_this) all0)
 replace S_HI_BYTE_SHIFT := Sta_keep S_HI_BYTE_SHIFT K1 (allS (Exa_ns E_this) all0)
 replace S_LO_BYTE_SHIFT := Sta_keep S_LO_BYTE_SHIFT K1 (allS (Exa_ns E_this) all0)
 have Z1 : n0 ≤ T1.heap.size := Nat.le_trans Z0 K1.1
 replace KP := KP.trans K1 (allS (Or.inl (by simp)) all0)
 replace A_pat := A_pat.keep K1 (ninS (Ne.symm ne_this_pat) nin0)
 refine Run.retV X1 hx hlk rfl hret (hb hby d16_9) (by decide) (by decide) ?_
 exact ⟨bt1, rfl, N1, KP, Es1, Fv1, Fc1, Ab1⟩
theorem ef_c_mk_1_1 (m : MethodId) (c0 : Int32) (c1 : Int32) (c2 : Int32) : entryFrame m #[(.int 1), (.int c0), (.int c1), (.int c2)] 4 = mkF m 0 #[.val (.int 1), .val (.int c0), .val (.int c1), .val (.int c2)] [] := by first | (simp [entryFrame, mkF, argsToLocals, Value.category]; done) | rfl
set_option maxRecDepth 65536 in
set_option maxHeartbeats 40000000 in
theorem c_mk_1_1 (l : Launch) (Z : State) (a0 : Array Value) (hw : ∀ d ∈ tables_1, d.before a0 Z = true) (c0 : Int32) (c1 : Int32) (c2 : Int32) (h0 : Heap) (n0 : Nat) (Z0 : n0 ≤ h0.size) (cp : Int32) (S_COMPACT_STRINGS : Sta Z h0 "java/lang/String" "COMPACT_STRINGS" "Z" (.int cp)) (S__assertionsDisabled : Sta Z h0 "java/lang/StringUTF16" "$assertionsDisabled" "Z" (.int 1)) (S_HI_BYTE_SHIFT : Sta Z h0 "java/lang/StringUTF16" "HI_BYTE_SHIFT" "I" (.int 0)) (S_LO_BYTE_SHIFT : Sta Z h0 "java/lang/StringUTF16" "LO_BYTE_SHIFT" "I" (.int 8)) (hcp : ¬ cp = (0 : Int32)) (ha : (255 : Int32) < c0) (hr0 : 0 ≤ c0.toInt ∧ c0.toInt < 65536) (hr1 : 0 ≤ c1.toInt ∧ c1.toInt < 65536) (hr2 : 0 ≤ c2.toInt ∧ c2.toInt < 65536) :
  Ctr l Z (⟨"com/example/sayso/sayso/TextCursorAtPinLaw", "make", "(ICCC)Ljava/lang/String;"⟩ : MethodName) method_2_code 4 (some (.object "java/lang/String")) ({ frames := 6, cells := 4, slots := 8, locals := 88 } : Room) #[(.int 1), (.int c0), (.int c1), (.int c2)] h0 (fun v h L => ∃ b bts : Addr, v = some (.ref b) ∧ Fr n0 L ∧ Keep h0 h [] ∧ h0.size ≤ b ∧ Exa Z h b "java/lang/String" ∧ Fld Z h b "java/lang/String" "value" "[B" (.ref bts) ∧ Fld Z h b "java/lang/String" "coder" "B" (.int 1) ∧ Ars Z h bts .byte [(.int (c0 >>> ((0 : Int32) &&& 31)).toInt8.toInt32), (.int (c0 >>> ((8 : Int32) &&& 31)).toInt8.toInt32)]) := by
 refine Ctr.of (plainFor_of_name pn_4) (fun m => ef_c_mk_1_1 m c0 c1 c2) ?_
 intro p e s m below meth c T0 hx hby hml hown hnm hret hlk hZ e0 X0
 have N0 := Fr.nil n0
 replace hown : s.vm.findClass "com/example/sayso/sayso/TextCursorAtPinLaw" = some m.cls := hown
 replace hml : c.maxLocals = 4 := hml
 have KP := Keep.refl h0 []
 refine Run.x_iloadN (q := 1) X0 hx (hb hby d17_0) rfl rfl ?_
 refine Run.x_ifYes (q := 15) X0 hx (hb hby d17_1) ((if0 _ _).trans (feq (by decide : ¬ ((1 : Int32) = (0 : Int32)))).2) (by decide) (by decide) ?_
 refine Run.x_iloadN (q := 16) X0 hx (hb hby d17_15) rfl rfl ?_
 refine Run.x_iconst (q := 17) X0 hx (hb hby d17_16) (z := (1 : Int32)) rfl rfl ?_
 refine Run.x_icmpNo (q := 20) X0 hx (hb hby d17_17) (teq (by decide : (1 : Int32) = (1 : Int32))).2 rfl ?_
 obtain ⟨T1, h1, X1, e1, E1, A1, D1, -, st1⟩ := newO X0 hx hZ hown (wm6 hw) (wm7 hw) (wm8 hw) e0 (g := (mkF m 20 #[.val (.int 1), .val (.int c0), .val (.int c1), .val (.int c2)] [])) rfl (hb hby d17_20) (by decide) (by decide)
 obtain ⟨b1, gg1⟩ : ∃ z, z = h0.size := ⟨_, rfl⟩
 rw [← gg1] at A1 D1 st1
 have g_b1 : n0 ≤ b1 := Nat.le_trans Z0 (Nat.le_of_eq gg1.symm)
 have sz_b1 : h0.size ≤ b1 := Nat.le_trans KP.1 (Nat.le_of_eq gg1.symm)
 have Z1 : n0 ≤ h1.size := Nat.le_trans Z0 E1.1
 replace KP := KP.ext E1
 have E_b1 := A1
 have F_b1_coder : Fld Z h1 b1 "java/lang/String" "coder" "B" (.int 0) := D1 (Or.inr (wm32 hw)) (ty := .byte) (by decide)
 have F_b1_value : Fld Z h1 b1 "java/lang/String" "value" "[B" .null := D1 (Or.inr (wm34 hw)) (ty := (.array .byte)) (by decide)
 refine Run.st st1 ?_
 show Run p e below s _ _ _ (T1.setTop (mkF m 23 #[.val (.int 1), .val (.int c0), .val (.int c1), .val (.int c2)] [(.ref b1)]))
 refine Run.x_dup (q := 24) X1 hx (hb hby d17_23) rfl rfl ?_
 refine Run.x_iconst (q := 25) X1 hx (hb hby d17_24) (z := (1 : Int32)) rfl rfl ?_
 refine Run.newP (aty := .char) X1 hx hZ e1 (wm0 hw) (hb hby d17_25) (len := 1) (by decide) (by decide) (cap := 1) (by decide) (by decide) (by decide) (by decide) ?_
 intro T2 h2 b2 gg2 X2 e2 E2 A_b2
 have g_b2 : n0 ≤ b2 := Nat.le_trans Z1 (Nat.le_of_eq gg2.symm)
 have ne_b1_b2 : b1 ≠ b2 := Nat.ne_of_lt (Nat.lt_of_lt_of_le E_b1.lt (Nat.le_of_eq gg2.symm))
 have sz_b2 : h0.size ≤ b2 := Nat.le_trans KP.1 (Nat.le_of_eq gg2.symm)
 have Z2 : n0 ≤ h2.size := Nat.le_trans Z1 E2.1
 replace KP := KP.ext E2
 replace A_b2 : Ars Z h2 b2 .char [(.int 0)] := A_b2
 show Run p e below s _ _ _ (T2.setTop (mkF m 27 #[.val (.int 1), .val (.int c0), .val (.int c1), .val (.int c2)] [(.ref b2), (.ref b1), (.ref b1)]))
 refine Run.x_dup (q := 28) X2 hx (hb hby d17_27) rfl rfl ?_
 refine Run.x_iconst (q := 29) X2 hx (hb hby d17_28) (z := (0 : Int32)) rfl rfl ?_
 refine Run.x_iloadN (q := 30) X2 hx (hb hby d17_29) rfl rfl ?_
 refine Run.y_stC (q := 31) X2 hx hZ e2 A_b2 (i := 0) (by decide) (Nat.le_of_ble_eq_true rfl) (z' := c0) (own_nr hr0) (hb hby d17_30) rfl fun T3 h3 X3 e3 W3 A3 => ?_
 replace A_b2 : Ars Z h3 b2 .char [(.int c0)] := A3
 replace KP := KP.wr W3 (Or.inr sz_b2)
 have N3 := Fr.snoc X3 N0 g_b2
 have Z3 : n0 ≤ h3.size := Nat.le_trans Z2 (Nat.le_of_eq W3.size.symm)
 replace E_b1 := (E_b1.ext E2).wr W3
 replace F_b1_value := (F_b1_value.ext E2).other W3 (Or.inl ne_b1_b2)
 replace F_b1_coder := (F_b1_coder.ext E2).other W3 (Or.inl ne_b1_b2)
 replace S_COMPACT_STRINGS := ((S_COMPACT_STRINGS.ext E1).ext E2).wr W3
 replace S__assertionsDisabled := ((S__assertionsDisabled.ext E1).ext E2).wr W3
 replace S_HI_BYTE_SHIFT := ((S_HI_BYTE_SHIFT.ext E1).ext E2).wr W3
 replace S_LO_BYTE_SHIFT := ((S_LO_BYTE_SHIFT.ext E1).ext E2).wr W3
 refine Run.callC X3 hx hZ e3 (y := (⟨"java/lang/String", "<init>", "([C)V"⟩ : MethodName)) hown rfl (wm9 hw) (wm10 hw) (wm8 hw) (wm11 hw) (by decide) (a := b1) (argsL := [(.ref b2)]) (rest := [(.ref b1)]) (c_si1_1_1 l Z a0 hw b1 b2 h3 n0 Z3 cp c0 E_b1 F_b1_value F_b1_coder A_b2 S_COMPACT_STRINGS S__assertionsDisabled S_HI_BYTE_SHIFT S_LO_BYTE_SHIFT g_b1 ne_b1_b2 hcp ha hr0) pd_12 rfl (by rw [hml]; rfl) (W := 1) rfl (by decide) (by decide) (by decide) (by decide) (hb hby d17_31) rfl ?_
 intro T4 v4 L4 X4 q4
 obtain ⟨bt4, rfl, M4, K4, Es4, Fv4, Fc4, Ab4⟩ := q4
 have N4 := Fr.app N3 M4
 show Run p e below s _ _ _ (T4.setTop (mkF m 34 #[.val (.int 1), .val (.int c0), .val (.int c1), .val (.int c2)] [(.ref b1)]))
 replace S_COMPACT_STRINGS := Sta_keep S_COMPACT_STRINGS K4 (allS (Exa_ns E_b1) all0)
 replace S__assertionsDisabled := Sta_keep S__assertionsDisabled K4 (allS (Exa_ns E_b1) all0)
 replace S_HI_BYTE_SHIFT := Sta_keep S_HI_BYTE_SHIFT K4 (allS (Exa_ns E_b1) all0)
 replace S_LO_BYTE_SHIFT := Sta_keep S_LO_BYTE_SHIFT K4 (allS (Exa_ns E_b1) all0)
 have Z4 : n0 ≤ T4.heap.size := Nat.le_trans Z3 K4.1
 replace KP := KP.trans K4 (allS (Or.inr sz_b1) all0)
 replace A_b2 := A_b2.keep K4 (ninS (Ne.symm ne_b1_b2) nin0)
 refine Run.retA X4 hx hlk rfl (t := (.object "java/lang/String")) hret rfl rfl rfl (hb hby d17_34) (by decide) (by decide) ?_
 exact ⟨b1, bt4, rfl, N4, KP, sz_b1, Es4, Fv4, Fc4, Ab4⟩
theorem ef_c_si4_2_0 (m : MethodId) (this : Addr) (pat : Addr) : entryFrame m #[(.ref this), (.ref pat), (.int 0), (.int 2), .null] 6 = mkF m 0 #[.val (.ref this), .val (.ref pat), .val (.int 0), .val (.int 2), .val .null, .unset] [] := by first | (simp [entryFrame, mkF, argsToLocals, Value.category]; done) | rfl
set_option maxRecDepth 65536 in
set_option maxHeartbeats 40000000 in
theorem c_si4_2_0 (l : Launch) (Z : State) (a0 : Array Value) (hw : ∀ d ∈ tables_1, d.before a0 Z = true) (this : Addr) (pat : Addr) (h0 : Heap) (n0 : Nat) (Z0 : n0 ≤ h0.size) (cp : Int32) (c0 : Int32) (c1 : Int32) (E_this : Exa Z h0 this "java/lang/String") (F_this_value : Fld Z h0 this "java/lang/String" "value" "[B" .null) (F_this_coder : Fld Z h0 this "java/lang/String" "coder" "B" (.int 0)) (A_pat : Ars Z h0 pat .char [(.int c0), (.int c1)]) (S_COMPACT_STRINGS : Sta Z h0 "java/lang/String" "COMPACT_STRINGS" "Z" (.int cp)) (g_this : n0 ≤ this) (ne_this_pat : this ≠ pat) (hcp : ¬ cp = (0 : Int32)) (ha0 : ¬ (255 : Int32) < c0) (ha1 : ¬ (255 : Int32) < c1) (hr0 : 0 ≤ c0.toInt ∧ c0.toInt < 65536) (hr1 : 0 ≤ c1.toInt ∧ c1.toInt < 65536) :
  Ctr l Z (⟨"java/lang/String", "<init>", "([CIILjava/lang/Void;)V"⟩ : MethodName) jdk_42_method_149_code 6 none ({ frames := 2, cells := 1, slots := 2, locals := 35 } : Room) #[(.ref this), (.ref pat), (.int 0), (.int 2), .null] h0 (fun v h L => ∃ b : Addr, v = none ∧ Fr n0 L ∧ Keep h0 h [this] ∧ Exa Z h this "java/lang/String" ∧ Fld Z h this "java/lang/String" "value" "[B" (.ref b) ∧ Fld Z h this "java/lang/String" "coder" "B" (.int 0) ∧ Ars Z h b .byte [(.int c0.toInt8.toInt32), (.int c1.toInt8.toInt32)]) := by
 refine Ctr.of (plainFor_of_name pn_1) (fun m => ef_c_si4_2_0 m this pat) ?_
 intro p e s m below meth c T0 hx hby hml hown hnm hret hlk hZ e0 X0
 have N0 := Fr.nil n0
 replace hown : s.vm.findClass "java/lang/String" = some m.cls := hown
 replace hml : c.maxLocals = 6 := hml
 have KP := Keep.refl h0 [this]
 refine Run.x_aloadN (q := 1) X0 hx (hb hby d15_0) rfl rfl rfl ?_
 refine Run.init X0 hx hZ e0 hown (wm16 hw) (wm17 hw) (wm18 hw) (by rw [hml]; rfl) (hb hby d15_1) (by decide) (W := 0) rfl (by decide) ?_
 intro T1 X1 e1
 show Run p e below s _ _ _ (T1.setTop (mkF m 4 #[.val (.ref this), .val (.ref pat), .val (.int 0), .val (.int 2), .val .null, .unset] []))
 refine Run.x_iloadN (q := 5) X1 hx (hb hby d15_4) rfl rfl ?_
 refine Run.x_ifYes (q := 27) X1 hx (hb hby d15_5) ((if0 _ _).trans (feq (by decide : ¬ ((2 : Int32) = (0 : Int32)))).2) (by decide) (by decide) ?_
 obtain ⟨T2, X2, e2, st2⟩ := getS2 X1 hx hZ hown (host := "") (Or.inl (wm19 hw)) Via.refl e1 S_COMPACT_STRINGS (g := (mkF m 27 #[.val (.ref this), .val (.ref pat), .val (.int 0), .val (.int 2), .val .null, .unset] [])) rfl (hb hby d15_27)
 refine Run.st st2 ?_
 show Run p e below s _ _ _ (T2.setTop (mkF m 30 #[.val (.ref this), .val (.ref pat), .val (.int 0), .val (.int 2), .val .null, .unset] [(.int cp)]))
 refine Run.x_ifNo (q := 33) X2 hx (hb hby d15_30) ((if0 _ _).trans (feq hcp).1) rfl ?_
 refine Run.x_aloadN (q := 34) X2 hx (hb hby d15_33) rfl rfl rfl ?_
 refine Run.x_iloadN (q := 35) X2 hx (hb hby d15_34) rfl rfl ?_
 refine Run.x_iloadN (q := 36) X2 hx (hb hby d15_35) rfl rfl ?_
 refine Run.callS X2 hx hZ e2 (y := (⟨"java/lang/StringUTF16", "compress", "([CII)[B"⟩ : MethodName)) hown (wm20 hw) (wm21 hw) (wm22 hw) (wm23 hw) (by decide) (argsL := [(.ref pat), (.int 0), (.int 2)]) (rest := []) (c_cm3_2_0 l Z a0 hw pat h0 n0 Z0 c0 c1 A_pat ha0 ha1 hr0 hr1) pd_9 rfl (by rw [hml]; rfl) (W := 0) rfl (by decide) (by decide) (by decide) (by decide) (hb hby d15_36) rfl ?_
 intro T3 v3 L3 X3 q3
 obtain ⟨np3, rfl, M3, K3, sz3, An3⟩ := q3
 have N3 := Fr.app N0 M3
 show Run p e below s _ _ _ (T3.setTop (mkF m 39 #[.val (.ref this), .val (.ref pat), .val (.int 0), .val (.int 2), .val .null, .unset] [(.ref np3)]))
 have ne_this_np3 : this ≠ np3 := Nat.ne_of_lt (Nat.lt_of_lt_of_le E_this.lt sz3)
 have ne_pat_np3 : pat ≠ np3 := Nat.ne_of_lt (Nat.lt_of_lt_of_le A_pat.lt sz3)
 have g_np3 : n0 ≤ np3 := Nat.le_trans Z0 sz3
 have sz_np3 : h0.size ≤ np3 := Nat.le_trans KP.1 sz3
 replace S_COMPACT_STRINGS := Sta_keep S_COMPACT_STRINGS K3 all0
 have Z3 : n0 ≤ T3.heap.size := Nat.le_trans Z0 K3.1
 replace KP := KP.trans K3 all0
 refine Run.x_astore (q := 41) X3 hx #[.val (.ref this), .val (.ref pat), .val (.int 0), .val (.int 2), .val .null, .val (.ref np3)] (hb hby d15_39) rfl rfl rfl ?_
 refine Run.x_aloadN (q := 42) X3 hx (hb hby d15_41) rfl rfl rfl ?_
 refine Run.x_aload (q := 44) X3 hx (hb hby d15_42) rfl rfl rfl ?_
 refine Run.x_iloadN (q := 45) X3 hx (hb hby d15_44) rfl rfl ?_
 refine Run.callSI (q := 48) X3 hx hZ rfl (y := (⟨"java/lang/StringUTF16", "coderFromArrayLen", "([BI)B"⟩ : MethodName)) hown (wm28 hw) (wm29 hw) (wm22 hw) (wm30 hw) (by decide) (argsL := [(.ref np3), (.int 2)]) (rest := [(.ref this)]) (c_cfa l Z a0 hw np3 (2 : Int32) T3.heap n0 Z3 [(.int c0.toInt8.toInt32), (.int c1.toInt8.toInt32)] (2 : Int32) (0 : Int32) An3 rfl (by decide)) pd_10 rfl (by rw [hml]; rfl) (W := 1) rfl (by decide) (by decide) (by decide) (by decide) (hb hby d15_45) rfl rfl fun T4 L4 X4 M4 e4 => ?_
 have N4 := Fr.app N3 M4
 replace F_this_coder := F_this_coder.keep K3 nin0
 replace E_this := E_this.keep K3
 obtain ⟨T5, h5, X5, e5, W5, st5⟩ := putFN X4 hx hZ hown (wm31 hw) Via.refl e4 F_this_coder E_this (Or.inr ⟨(wm32 hw), rfl, hnm⟩) (wm7 hw) (ty := .byte) (v' := (.int 0)) (by decide) rfl (by decide) (g := (mkF m 48 #[.val (.ref this), .val (.ref pat), .val (.int 0), .val (.int 2), .val .null, .val (.ref np3)] [(.int 0), (.ref this)])) rfl rfl (hb hby d15_48)
 replace F_this_coder := F_this_coder.same W5
 have Z5 : n0 ≤ h5.size := Nat.le_trans Z3 (Nat.le_of_eq W5.size.symm)
 replace KP := KP.wr W5 (Or.inl (by simp))
 have N5 := Fr.snoc X5 N4 g_this
 refine Run.st st5 ?_
 show Run p e below s _ _ _ (T5.setTop (mkF m 51 #[.val (.ref this), .val (.ref pat), .val (.int 0), .val (.int 2), .val .null, .val (.ref np3)] []))
 refine Run.x_aloadN (q := 52) X5 hx (hb hby d15_51) rfl rfl rfl ?_
 refine Run.x_aload (q := 54) X5 hx (hb hby d15_52) rfl rfl rfl ?_
 replace F_this_value := (F_this_value.keep K3 nin0).other W5 (Or.inr (slot_ne (Or.inr (wm34 hw)) (Or.inr (wm32 hw)) (by decide) (t := (.array .byte)) (t' := .byte) (by decide) (by decide)))
 replace E_this := E_this.wr W5
 obtain ⟨T6, h6, X6, e6, W6, st6⟩ := putF X5 hx hZ hown (host := "") (Or.inl (wm33 hw)) Via.refl e5 F_this_value E_this (Or.inr ⟨(wm34 hw), rfl, hnm⟩) (wm7 hw) (ty := (.array .byte)) (by decide) rfl rfl (g := (mkF m 54 #[.val (.ref this), .val (.ref pat), .val (.int 0), .val (.int 2), .val .null, .val (.ref np3)] [(.ref np3), (.ref this)])) rfl rfl (hb hby d15_54)
 replace F_this_value := F_this_value.same W6
 have Z6 : n0 ≤ h6.size := Nat.le_trans Z5 (Nat.le_of_eq W6.size.symm)
 replace KP := KP.wr W6 (Or.inl (by simp))
 have N6 := Fr.snoc X6 N5 g_this
 refine Run.st st6 ?_
 show Run p e below s _ _ _ (T6.setTop (mkF m 57 #[.val (.ref this), .val (.ref pat), .val (.int 0), .val (.int 2), .val .null, .val (.ref np3)] []))
 replace E_this := E_this.wr W6
 replace F_this_coder := F_this_coder.other W6 (Or.inr (slot_ne (Or.inr (wm32 hw)) (Or.inr (wm34 hw)) (by decide) (t := .byte) (t' := (.array .byte)) (by decide) (by decide)))
 replace A_pat := ((A_pat.keep K3 nin0).other W5 (Ne.symm ne_this_pat)).other W6 (Ne.symm ne_this_pat)
 replace S_COMPACT_STRINGS := (S_COMPACT_STRINGS.wr W5).wr W6
 replace An3 := (An3.other W5 (Ne.symm ne_this_np3)).other W6 (Ne.symm ne_this_np3)
 refine Run.retV X6 hx hlk e6 hret (hb hby d15_57) (by decide) (by decide) ?_
 exact ⟨np3, rfl, N6, KP, E_this, F_this_value, F_this_coder, An3⟩
theorem ef_c_si1_2_0 (m : MethodId) (this : Addr) (pat : Addr) : entryFrame m #[(.ref this), (.ref pat)] 2 = mkF m 0 #[.val (.ref this), .val (.ref pat)] [] := by first | (simp [entryFrame, mkF, argsToLocals, Value.category]; done) | rfl
set_option maxRecDepth 65536 in
set_option maxHeartbeats 40000000 in
theorem c_si1_2_0 (l : Launch) (Z : State) (a0 : Array Value) (hw : ∀ d ∈ tables_1, d.before a0 Z = true) (this : Addr) (pat : Addr) (h0 : Heap) (n0 : Nat) (Z0 : n0 ≤ h0.size) (cp : Int32) (c0 : Int32) (c1 : Int32) (E_this : Exa Z h0 this "java/lang/String") (F_this_value : Fld Z h0 this "java/lang/String" "value" "[B" .null) (F_this_coder : Fld Z h0 this "java/lang/String" "coder" "B" (.int 0)) (A_pat : Ars Z h0 pat .char [(.int c0), (.int c1)]) (S_COMPACT_STRINGS : Sta Z h0 "java/lang/String" "COMPACT_STRINGS" "Z" (.int cp)) (g_this : n0 ≤ this) (ne_this_pat : this ≠ pat) (hcp : ¬ cp = (0 : Int32)) (ha0 : ¬ (255 : Int32) < c0) (ha1 : ¬ (255 : Int32) < c1) (hr0 : 0 ≤ c0.toInt ∧ c0.toInt < 65536) (hr1 : 0 ≤ c1.toInt ∧ c1.toInt < 65536) :
  Ctr l Z (⟨"java/lang/String", "<init>", "([C)V"⟩ : MethodName) jdk_42_method_3_code 2 none ({ frames := 3, cells := 1, slots := 2, locals := 52 } : Room) #[(.ref this), (.ref pat)] h0 (fun v h L => ∃ b : Addr, v = none ∧ Fr n0 L ∧ Keep h0 h [this] ∧ Exa Z h this "java/lang/String" ∧ Fld Z h this "java/lang/String" "value" "[B" (.ref b) ∧ Fld Z h this "java/lang/String" "coder" "B" (.int 0) ∧ Ars Z h b .byte [(.int c0.toInt8.toInt32), (.int c1.toInt8.toInt32)]) := by
 refine Ctr.of (plainFor_of_name pn_1) (fun m => ef_c_si1_2_0 m this pat) ?_
 intro p e s m below meth c T0 hx hby hml hown hnm hret hlk hZ e0 X0
 have N0 := Fr.nil n0
 replace hown : s.vm.findClass "java/lang/String" = some m.cls := hown
 replace hml : c.maxLocals = 2 := hml
 have KP := Keep.refl h0 [this]
 refine Run.x_aloadN (q := 1) X0 hx (hb hby d16_0) rfl rfl rfl ?_
 refine Run.x_aloadN (q := 2) X0 hx (hb hby d16_1) rfl rfl rfl ?_
 refine Run.x_iconst (q := 3) X0 hx (hb hby d16_2) (z := (0 : Int32)) rfl rfl ?_
 refine Run.x_aloadN (q := 4) X0 hx (hb hby d16_3) rfl rfl rfl ?_
 refine Run.y_alen (q := 5) X0 hx hZ e0 A_pat (z := (2 : Int32)) rfl (hb hby d16_4) rfl ?_
 refine Run.x_null (q := 6) X0 hx (hb hby d16_5)  rfl ?_
 refine Run.callC X0 hx hZ e0 (y := (⟨"java/lang/String", "<init>", "([CIILjava/lang/Void;)V"⟩ : MethodName)) hown rfl (wm12 hw) (wm13 hw) (wm8 hw) (wm15 hw) (by decide) (a := this) (argsL := [(.ref pat), (.int 0), (.int 2), .null]) (rest := []) (c_si4_2_0 l Z a0 hw this pat h0 n0 Z0 cp c0 c1 E_this F_this_value F_this_coder A_pat S_COMPACT_STRINGS g_this ne_this_pat hcp ha0 ha1 hr0 hr1) pd_11 rfl (by rw [hml]; rfl) (W := 0) rfl (by decide) (by decide) (by decide) (by decide) (hb hby d16_6) rfl ?_
 intro T1 v1 L1 X1 q1
 obtain ⟨bt1, rfl, M1, K1, Es1, Fv1, Fc1, Ab1⟩ := q1
 have N1 := Fr.app N0 M1
 show Run p e below s _ _ _ (T1.setTop (mkF m 9 #[.val (.ref this), .val (.ref pat)] []))
 replace S_COMPACT_STRINGS := Sta_keep S_COMPACT_STRINGS K1 (allS (Exa_ns E_this) all0)
 have Z1 : n0 ≤ T1.heap.size := Nat.le_trans Z0 K1.1
 replace KP := KP.trans K1 (allS (Or.inl (by simp)) all0)
 replace A_pat := A_pat.keep K1 (ninS (Ne.symm ne_this_pat) nin0)
 refine Run.retV X1 hx hlk rfl hret (hb hby d16_9) (by decide) (by decide) ?_
 exact ⟨bt1, rfl, N1, KP, Es1, Fv1, Fc1, Ab1⟩
theorem ef_c_mk_2_0 (m : MethodId) (c0 : Int32) (c1 : Int32) (c2 : Int32) : entryFrame m #[(.int 2), (.int c0), (.int c1), (.int c2)] 4 = mkF m 0 #[.val (.int 2), .val (.int c0), .val (.int c1), .val (.int c2)] [] := by first | (simp [entryFrame, mkF, argsToLocals, Value.category]; done) | rfl
set_option maxRecDepth 65536 in
set_option maxHeartbeats 40000000 in
theorem c_mk_2_0 (l : Launch) (Z : State) (a0 : Array Value) (hw : ∀ d ∈ tables_1, d.before a0 Z = true) (c0 : Int32) (c1 : Int32) (c2 : Int32) (h0 : Heap) (n0 : Nat) (Z0 : n0 ≤ h0.size) (cp : Int32) (S_COMPACT_STRINGS : Sta Z h0 "java/lang/String" "COMPACT_STRINGS" "Z" (.int cp)) (hcp : ¬ cp = (0 : Int32)) (ha0 : ¬ (255 : Int32) < c0) (ha1 : ¬ (255 : Int32) < c1) (hr0 : 0 ≤ c0.toInt ∧ c0.toInt < 65536) (hr1 : 0 ≤ c1.toInt ∧ c1.toInt < 65536) (hr2 : 0 ≤ c2.toInt ∧ c2.toInt < 65536) :
  Ctr l Z (⟨"com/example/sayso/sayso/TextCursorAtPinLaw", "make", "(ICCC)Ljava/lang/String;"⟩ : MethodName) method_2_code 4 (some (.object "java/lang/String")) ({ frames := 4, cells := 3, slots := 8, locals := 66 } : Room) #[(.int 2), (.int c0), (.int c1), (.int c2)] h0 (fun v h L => ∃ b bts : Addr, v = some (.ref b) ∧ Fr n0 L ∧ Keep h0 h [] ∧ h0.size ≤ b ∧ Exa Z h b "java/lang/String" ∧ Fld Z h b "java/lang/String" "value" "[B" (.ref bts) ∧ Fld Z h b "java/lang/String" "coder" "B" (.int 0) ∧ Ars Z h bts .byte [(.int c0.toInt8.toInt32), (.int c1.toInt8.toInt32)]) := by
 refine Ctr.of (plainFor_of_name pn_4) (fun m => ef_c_mk_2_0 m c0 c1 c2) ?_
 intro p e s m below meth c T0 hx hby hml hown hnm hret hlk hZ e0 X0
 have N0 := Fr.nil n0
 replace hown : s.vm.findClass "com/example/sayso/sayso/TextCursorAtPinLaw" = some m.cls := hown
 replace hml : c.maxLocals = 4 := hml
 have KP := Keep.refl h0 []
 refine Run.x_iloadN (q := 1) X0 hx (hb hby d17_0) rfl rfl ?_
 refine Run.x_ifYes (q := 15) X0 hx (hb hby d17_1) ((if0 _ _).trans (feq (by decide : ¬ ((2 : Int32) = (0 : Int32)))).2) (by decide) (by decide) ?_
 refine Run.x_iloadN (q := 16) X0 hx (hb hby d17_15) rfl rfl ?_
 refine Run.x_iconst (q := 17) X0 hx (hb hby d17_16) (z := (1 : Int32)) rfl rfl ?_
 refine Run.x_icmpYes (q := 35) X0 hx (hb hby d17_17) (feq (by decide : ¬ ((2 : Int32) = (1 : Int32)))).2 (by decide) (by decide) ?_
 refine Run.x_iloadN (q := 36) X0 hx (hb hby d17_35) rfl rfl ?_
 refine Run.x_iconst (q := 37) X0 hx (hb hby d17_36) (z := (2 : Int32)) rfl rfl ?_
 refine Run.x_icmpNo (q := 40) X0 hx (hb hby d17_37) (teq (by decide : (2 : Int32) = (2 : Int32))).2 rfl ?_
 obtain ⟨T1, h1, X1, e1, E1, A1, D1, -, st1⟩ := newO X0 hx hZ hown (wm6 hw) (wm7 hw) (wm8 hw) e0 (g := (mkF m 40 #[.val (.int 2), .val (.int c0), .val (.int c1), .val (.int c2)] [])) rfl (hb hby d17_40) (by decide) (by decide)
 obtain ⟨b1, gg1⟩ : ∃ z, z = h0.size := ⟨_, rfl⟩
 rw [← gg1] at A1 D1 st1
 have g_b1 : n0 ≤ b1 := Nat.le_trans Z0 (Nat.le_of_eq gg1.symm)
 have sz_b1 : h0.size ≤ b1 := Nat.le_trans KP.1 (Nat.le_of_eq gg1.symm)
 have Z1 : n0 ≤ h1.size := Nat.le_trans Z0 E1.1
 replace KP := KP.ext E1
 have E_b1 := A1
 have F_b1_coder : Fld Z h1 b1 "java/lang/String" "coder" "B" (.int 0) := D1 (Or.inr (wm32 hw)) (ty := .byte) (by decide)
 have F_b1_value : Fld Z h1 b1 "java/lang/String" "value" "[B" .null := D1 (Or.inr (wm34 hw)) (ty := (.array .byte)) (by decide)
 refine Run.st st1 ?_
 show Run p e below s _ _ _ (T1.setTop (mkF m 43 #[.val (.int 2), .val (.int c0), .val (.int c1), .val (.int c2)] [(.ref b1)]))
 refine Run.x_dup (q := 44) X1 hx (hb hby d17_43) rfl rfl ?_
 refine Run.x_iconst (q := 45) X1 hx (hb hby d17_44) (z := (2 : Int32)) rfl rfl ?_
 refine Run.newP (aty := .char) X1 hx hZ e1 (wm0 hw) (hb hby d17_45) (len := 2) (by decide) (by decide) (cap := 2) (by decide) (by decide) (by decide) (by decide) ?_
 intro T2 h2 b2 gg2 X2 e2 E2 A_b2
 have g_b2 : n0 ≤ b2 := Nat.le_trans Z1 (Nat.le_of_eq gg2.symm)
 have ne_b1_b2 : b1 ≠ b2 := Nat.ne_of_lt (Nat.lt_of_lt_of_le E_b1.lt (Nat.le_of_eq gg2.symm))
 have sz_b2 : h0.size ≤ b2 := Nat.le_trans KP.1 (Nat.le_of_eq gg2.symm)
 have Z2 : n0 ≤ h2.size := Nat.le_trans Z1 E2.1
 replace KP := KP.ext E2
 replace A_b2 : Ars Z h2 b2 .char [(.int 0), (.int 0)] := A_b2
 show Run p e below s _ _ _ (T2.setTop (mkF m 47 #[.val (.int 2), .val (.int c0), .val (.int c1), .val (.int c2)] [(.ref b2), (.ref b1), (.ref b1)]))
 refine Run.x_dup (q := 48) X2 hx (hb hby d17_47) rfl rfl ?_
 refine Run.x_iconst (q := 49) X2 hx (hb hby d17_48) (z := (0 : Int32)) rfl rfl ?_
 refine Run.x_iloadN (q := 50) X2 hx (hb hby d17_49) rfl rfl ?_
 refine Run.y_stC (q := 51) X2 hx hZ e2 A_b2 (i := 0) (by decide) (Nat.le_of_ble_eq_true rfl) (z' := c0) (own_nr hr0) (hb hby d17_50) rfl fun T3 h3 X3 e3 W3 A3 => ?_
 replace A_b2 : Ars Z h3 b2 .char [(.int c0), (.int 0)] := A3
 replace KP := KP.wr W3 (Or.inr sz_b2)
 have N3 := Fr.snoc X3 N0 g_b2
 have Z3 : n0 ≤ h3.size := Nat.le_trans Z2 (Nat.le_of_eq W3.size.symm)
 refine Run.x_dup (q := 52) X3 hx (hb hby d17_51) rfl rfl ?_
 refine Run.x_iconst (q := 53) X3 hx (hb hby d17_52) (z := (1 : Int32)) rfl rfl ?_
 refine Run.x_iloadN (q := 54) X3 hx (hb hby d17_53) rfl rfl ?_
 refine Run.y_stC (q := 55) X3 hx hZ e3 A_b2 (i := 1) (by decide) (Nat.le_of_ble_eq_true rfl) (z' := c1) (own_nr hr1) (hb hby d17_54) rfl fun T4 h4 X4 e4 W4 A4 => ?_
 replace A_b2 : Ars Z h4 b2 .char [(.int c0), (.int c1)] := A4
 replace KP := KP.wr W4 (Or.inr sz_b2)
 have N4 := Fr.snoc X4 N3 g_b2
 have Z4 : n0 ≤ h4.size := Nat.le_trans Z3 (Nat.le_of_eq W4.size.symm)
 replace E_b1 := ((E_b1.ext E2).wr W3).wr W4
 replace F_b1_value := ((F_b1_value.ext E2).other W3 (Or.inl ne_b1_b2)).other W4 (Or.inl ne_b1_b2)
 replace F_b1_coder := ((F_b1_coder.ext E2).other W3 (Or.inl ne_b1_b2)).other W4 (Or.inl ne_b1_b2)
 replace S_COMPACT_STRINGS := (((S_COMPACT_STRINGS.ext E1).ext E2).wr W3).wr W4
 refine Run.callC X4 hx hZ e4 (y := (⟨"java/lang/String", "<init>", "([C)V"⟩ : MethodName)) hown rfl (wm9 hw) (wm10 hw) (wm8 hw) (wm11 hw) (by decide) (a := b1) (argsL := [(.ref b2)]) (rest := [(.ref b1)]) (c_si1_2_0 l Z a0 hw b1 b2 h4 n0 Z4 cp c0 c1 E_b1 F_b1_value F_b1_coder A_b2 S_COMPACT_STRINGS g_b1 ne_b1_b2 hcp ha0 ha1 hr0 hr1) pd_12 rfl (by rw [hml]; rfl) (W := 1) rfl (by decide) (by decide) (by decide) (by decide) (hb hby d17_55) rfl ?_
 intro T5 v5 L5 X5 q5
 obtain ⟨bt5, rfl, M5, K5, Es5, Fv5, Fc5, Ab5⟩ := q5
 have N5 := Fr.app N4 M5
 show Run p e below s _ _ _ (T5.setTop (mkF m 58 #[.val (.int 2), .val (.int c0), .val (.int c1), .val (.int c2)] [(.ref b1)]))
 replace S_COMPACT_STRINGS := Sta_keep S_COMPACT_STRINGS K5 (allS (Exa_ns E_b1) all0)
 have Z5 : n0 ≤ T5.heap.size := Nat.le_trans Z4 K5.1
 replace KP := KP.trans K5 (allS (Or.inr sz_b1) all0)
 replace A_b2 := A_b2.keep K5 (ninS (Ne.symm ne_b1_b2) nin0)
 refine Run.retA X5 hx hlk rfl (t := (.object "java/lang/String")) hret rfl rfl rfl (hb hby d17_58) (by decide) (by decide) ?_
 exact ⟨b1, bt5, rfl, N5, KP, sz_b1, Es5, Fv5, Fc5, Ab5⟩
theorem ef_c_si4_2_1 (m : MethodId) (this : Addr) (pat : Addr) : entryFrame m #[(.ref this), (.ref pat), (.int 0), (.int 2), .null] 6 = mkF m 0 #[.val (.ref this), .val (.ref pat), .val (.int 0), .val (.int 2), .val .null, .unset] [] := by first | (simp [entryFrame, mkF, argsToLocals, Value.category]; done) | rfl
set_option maxRecDepth 65536 in
set_option maxHeartbeats 40000000 in
theorem c_si4_2_1 (l : Launch) (Z : State) (a0 : Array Value) (hw : ∀ d ∈ tables_1, d.before a0 Z = true) (this : Addr) (pat : Addr) (h0 : Heap) (n0 : Nat) (Z0 : n0 ≤ h0.size) (cp : Int32) (c0 : Int32) (c1 : Int32) (E_this : Exa Z h0 this "java/lang/String") (F_this_value : Fld Z h0 this "java/lang/String" "value" "[B" .null) (F_this_coder : Fld Z h0 this "java/lang/String" "coder" "B" (.int 0)) (A_pat : Ars Z h0 pat .char [(.int c0), (.int c1)]) (S_COMPACT_STRINGS : Sta Z h0 "java/lang/String" "COMPACT_STRINGS" "Z" (.int cp)) (S__assertionsDisabled : Sta Z h0 "java/lang/StringUTF16" "$assertionsDisabled" "Z" (.int 1)) (S_HI_BYTE_SHIFT : Sta Z h0 "java/lang/StringUTF16" "HI_BYTE_SHIFT" "I" (.int 0)) (S_LO_BYTE_SHIFT : Sta Z h0 "java/lang/StringUTF16" "LO_BYTE_SHIFT" "I" (.int 8)) (g_this : n0 ≤ this) (ne_this_pat : this ≠ pat) (hcp : ¬ cp = (0 : Int32)) (ha : (255 : Int32) < c0 ∨ (255 : Int32) < c1) (hr0 : 0 ≤ c0.toInt ∧ c0.toInt < 65536) (hr1 : 0 ≤ c1.toInt ∧ c1.toInt < 65536) :
  Ctr l Z (⟨"java/lang/String", "<init>", "([CIILjava/lang/Void;)V"⟩ : MethodName) jdk_42_method_149_code 6 none ({ frames := 4, cells := 2, slots := 6, locals := 57 } : Room) #[(.ref this), (.ref pat), (.int 0), (.int 2), .null] h0 (fun v h L => ∃ b : Addr, v = none ∧ Fr n0 L ∧ Keep h0 h [this] ∧ Exa Z h this "java/lang/String" ∧ Fld Z h this "java/lang/String" "value" "[B" (.ref b) ∧ Fld Z h this "java/lang/String" "coder" "B" (.int 1) ∧ Ars Z h b .byte [(.int (c0 >>> ((0 : Int32) &&& 31)).toInt8.toInt32), (.int (c0 >>> ((8 : Int32) &&& 31)).toInt8.toInt32), (.int (c1 >>> ((0 : Int32) &&& 31)).toInt8.toInt32), (.int (c1 >>> ((8 : Int32) &&& 31)).toInt8.toInt32)]) := by
 refine Ctr.of (plainFor_of_name pn_1) (fun m => ef_c_si4_2_1 m this pat) ?_
 intro p e s m below meth c T0 hx hby hml hown hnm hret hlk hZ e0 X0
 have N0 := Fr.nil n0
 replace hown : s.vm.findClass "java/lang/String" = some m.cls := hown
 replace hml : c.maxLocals = 6 := hml
 have KP := Keep.refl h0 [this]
 refine Run.x_aloadN (q := 1) X0 hx (hb hby d15_0) rfl rfl rfl ?_
 refine Run.init X0 hx hZ e0 hown (wm16 hw) (wm17 hw) (wm18 hw) (by rw [hml]; rfl) (hb hby d15_1) (by decide) (W := 0) rfl (by decide) ?_
 intro T1 X1 e1
 show Run p e below s _ _ _ (T1.setTop (mkF m 4 #[.val (.ref this), .val (.ref pat), .val (.int 0), .val (.int 2), .val .null, .unset] []))
 refine Run.x_iloadN (q := 5) X1 hx (hb hby d15_4) rfl rfl ?_
 refine Run.x_ifYes (q := 27) X1 hx (hb hby d15_5) ((if0 _ _).trans (feq (by decide : ¬ ((2 : Int32) = (0 : Int32)))).2) (by decide) (by decide) ?_
 obtain ⟨T2, X2, e2, st2⟩ := getS2 X1 hx hZ hown (host := "") (Or.inl (wm19 hw)) Via.refl e1 S_COMPACT_STRINGS (g := (mkF m 27 #[.val (.ref this), .val (.ref pat), .val (.int 0), .val (.int 2), .val .null, .unset] [])) rfl (hb hby d15_27)
 refine Run.st st2 ?_
 show Run p e below s _ _ _ (T2.setTop (mkF m 30 #[.val (.ref this), .val (.ref pat), .val (.int 0), .val (.int 2), .val .null, .unset] [(.int cp)]))
 refine Run.x_ifNo (q := 33) X2 hx (hb hby d15_30) ((if0 _ _).trans (feq hcp).1) rfl ?_
 refine Run.x_aloadN (q := 34) X2 hx (hb hby d15_33) rfl rfl rfl ?_
 refine Run.x_iloadN (q := 35) X2 hx (hb hby d15_34) rfl rfl ?_
 refine Run.x_iloadN (q := 36) X2 hx (hb hby d15_35) rfl rfl ?_
 refine Run.callS X2 hx hZ e2 (y := (⟨"java/lang/StringUTF16", "compress", "([CII)[B"⟩ : MethodName)) hown (wm20 hw) (wm21 hw) (wm22 hw) (wm23 hw) (by decide) (argsL := [(.ref pat), (.int 0), (.int 2)]) (rest := []) (c_cm3_2_1 l Z a0 hw pat h0 n0 Z0 c0 c1 A_pat S__assertionsDisabled S_HI_BYTE_SHIFT S_LO_BYTE_SHIFT ha hr0 hr1) pd_9 rfl (by rw [hml]; rfl) (W := 0) rfl (by decide) (by decide) (by decide) (by decide) (hb hby d15_36) rfl ?_
 intro T3 v3 L3 X3 q3
 obtain ⟨np3, rfl, M3, K3, sz3, An3⟩ := q3
 have N3 := Fr.app N0 M3
 show Run p e below s _ _ _ (T3.setTop (mkF m 39 #[.val (.ref this), .val (.ref pat), .val (.int 0), .val (.int 2), .val .null, .unset] [(.ref np3)]))
 have ne_this_np3 : this ≠ np3 := Nat.ne_of_lt (Nat.lt_of_lt_of_le E_this.lt sz3)
 have ne_pat_np3 : pat ≠ np3 := Nat.ne_of_lt (Nat.lt_of_lt_of_le A_pat.lt sz3)
 have g_np3 : n0 ≤ np3 := Nat.le_trans Z0 sz3
 have sz_np3 : h0.size ≤ np3 := Nat.le_trans KP.1 sz3
 replace S_COMPACT_STRINGS := Sta_keep S_COMPACT_STRINGS K3 all0
 replace S__assertionsDisabled := Sta_keep S__assertionsDisabled K3 all0
 replace S_HI_BYTE_SHIFT := Sta_keep S_HI_BYTE_SHIFT K3 all0
 replace S_LO_BYTE_SHIFT := Sta_keep S_LO_BYTE_SHIFT K3 all0
 have Z3 : n0 ≤ T3.heap.size := Nat.le_trans Z0 K3.1
 replace KP := KP.trans K3 all0
 refine Run.x_astore (q := 41) X3 hx #[.val (.ref this), .val (.ref pat), .val (.int 0), .val (.int 2), .val .null, .val (.ref np3)] (hb hby d15_39) rfl rfl rfl ?_
 refine Run.x_aloadN (q := 42) X3 hx (hb hby d15_41) rfl rfl rfl ?_
 refine Run.x_aload (q := 44) X3 hx (hb hby d15_42) rfl rfl rfl ?_
 refine Run.x_iloadN (q := 45) X3 hx (hb hby d15_44) rfl rfl ?_
 refine Run.callSI (q := 48) X3 hx hZ rfl (y := (⟨"java/lang/StringUTF16", "coderFromArrayLen", "([BI)B"⟩ : MethodName)) hown (wm28 hw) (wm29 hw) (wm22 hw) (wm30 hw) (by decide) (argsL := [(.ref np3), (.int 2)]) (rest := [(.ref this)]) (c_cfa l Z a0 hw np3 (2 : Int32) T3.heap n0 Z3 [(.int (c0 >>> ((0 : Int32) &&& 31)).toInt8.toInt32), (.int (c0 >>> ((8 : Int32) &&& 31)).toInt8.toInt32), (.int (c1 >>> ((0 : Int32) &&& 31)).toInt8.toInt32), (.int (c1 >>> ((8 : Int32) &&& 31)).toInt8.toInt32)] (4 : Int32) (1 : Int32) An3 rfl (by decide)) pd_10 rfl (by rw [hml]; rfl) (W := 1) rfl (by decide) (by decide) (by decide) (by decide) (hb hby d15_45) rfl rfl fun T4 L4 X4 M4 e4 => ?_
 have N4 := Fr.app N3 M4
 replace F_this_coder := F_this_coder.keep K3 nin0
 replace E_this := E_this.keep K3
 obtain ⟨T5, h5, X5, e5, W5, st5⟩ := putFN X4 hx hZ hown (wm31 hw) Via.refl e4 F_this_coder E_this (Or.inr ⟨(wm32 hw), rfl, hnm⟩) (wm7 hw) (ty := .byte) (v' := (.int 1)) (by decide) rfl (by decide) (g := (mkF m 48 #[.val (.ref this), .val (.ref pat), .val (.int 0), .val (.int 2), .val .null, .val (.ref np3)] [(.int 1), (.ref this)])) rfl rfl (hb hby d15_48)
 replace F_this_coder := F_this_coder.same W5
 have Z5 : n0 ≤ h5.size := Nat.le_trans Z3 (Nat.le_of_eq W5.size.symm)
 replace KP := KP.wr W5 (Or.inl (by simp))
 have N5 := Fr.snoc X5 N4 g_this
 refine Run.st st5 ?_
 show Run p e below s _ _ _ (T5.setTop (mkF m 51 #[.val (.ref this), .val (.ref pat), .val (.int 0), .val (.int 2), .val .null, .val (.ref np3)] []))
 refine Run.x_aloadN (q := 52) X5 hx (hb hby d15_51) rfl rfl rfl ?_
 refine Run.x_aload (q := 54) X5 hx (hb hby d15_52) rfl rfl rfl ?_
 replace F_this_value := (F_this_value.keep K3 nin0).other W5 (Or.inr (slot_ne (Or.inr (wm34 hw)) (Or.inr (wm32 hw)) (by decide) (t := (.array .byte)) (t' := .byte) (by decide) (by decide)))
 replace E_this := E_this.wr W5
 obtain ⟨T6, h6, X6, e6, W6, st6⟩ := putF X5 hx hZ hown (host := "") (Or.inl (wm33 hw)) Via.refl e5 F_this_value E_this (Or.inr ⟨(wm34 hw), rfl, hnm⟩) (wm7 hw) (ty := (.array .byte)) (by decide) rfl rfl (g := (mkF m 54 #[.val (.ref this), .val (.ref pat), .val (.int 0), .val (.int 2), .val .null, .val (.ref np3)] [(.ref np3), (.ref this)])) rfl rfl (hb hby d15_54)
 replace F_this_value := F_this_value.same W6
 have Z6 : n0 ≤ h6.size := Nat.le_trans Z5 (Nat.le_of_eq W6.size.symm)
 replace KP := KP.wr W6 (Or.inl (by simp))
 have N6 := Fr.snoc X6 N5 g_this
 refine Run.st st6 ?_
 show Run p e below s _ _ _ (T6.setTop (mkF m 57 #[.val (.ref this), .val (.ref pat), .val (.int 0), .val (.int 2), .val .null, .val (.ref np3)] []))
 replace E_this := E_this.wr W6
 replace F_this_coder := F_this_coder.other W6 (Or.inr (slot_ne (Or.inr (wm32 hw)) (Or.inr (wm34 hw)) (by decide) (t := .byte) (t' := (.array .byte)) (by decide) (by decide)))
 replace A_pat := ((A_pat.keep K3 nin0).other W5 (Ne.symm ne_this_pat)).other W6 (Ne.symm ne_this_pat)
 replace S_COMPACT_STRINGS := (S_COMPACT_STRINGS.wr W5).wr W6
 replace S__assertionsDisabled := (S__assertionsDisabled.wr W5).wr W6
 replace S_HI_BYTE_SHIFT := (S_HI_BYTE_SHIFT.wr W5).wr W6
 replace S_LO_BYTE_SHIFT := (S_LO_BYTE_SHIFT.wr W5).wr W6
 replace An3 := (An3.other W5 (Ne.symm ne_this_np3)).other W6 (Ne.symm ne_this_np3)
 refine Run.retV X6 hx hlk e6 hret (hb hby d15_57) (by decide) (by decide) ?_
 exact ⟨np3, rfl, N6, KP, E_this, F_this_value, F_this_coder, An3⟩
theorem ef_c_si1_2_1 (m : MethodId) (this : Addr) (pat : Addr) : entryFrame m #[(.ref this), (.ref pat)] 2 = mkF m 0 #[.val (.ref this), .val (.ref pat)] [] := by first | (simp [entryFrame, mkF, argsToLocals, Value.category]; done) | rfl
set_option maxRecDepth 65536 in
set_option maxHeartbeats 40000000 in
theorem c_si1_2_1 (l : Launch) (Z : State) (a0 : Array Value) (hw : ∀ d ∈ tables_1, d.before a0 Z = true) (this : Addr) (pat : Addr) (h0 : Heap) (n0 : Nat) (Z0 : n0 ≤ h0.size) (cp : Int32) (c0 : Int32) (c1 : Int32) (E_this : Exa Z h0 this "java/lang/String") (F_this_value : Fld Z h0 this "java/lang/String" "value" "[B" .null) (F_this_coder : Fld Z h0 this "java/lang/String" "coder" "B" (.int 0)) (A_pat : Ars Z h0 pat .char [(.int c0), (.int c1)]) (S_COMPACT_STRINGS : Sta Z h0 "java/lang/String" "COMPACT_STRINGS" "Z" (.int cp)) (S__assertionsDisabled : Sta Z h0 "java/lang/StringUTF16" "$assertionsDisabled" "Z" (.int 1)) (S_HI_BYTE_SHIFT : Sta Z h0 "java/lang/StringUTF16" "HI_BYTE_SHIFT" "I" (.int 0)) (S_LO_BYTE_SHIFT : Sta Z h0 "java/lang/StringUTF16" "LO_BYTE_SHIFT" "I" (.int 8)) (g_this : n0 ≤ this) (ne_this_pat : this ≠ pat) (hcp : ¬ cp = (0 : Int32)) (ha : (255 : Int32) < c0 ∨ (255 : Int32) < c1) (hr0 : 0 ≤ c0.toInt ∧ c0.toInt < 65536) (hr1 : 0 ≤ c1.toInt ∧ c1.toInt < 65536) :
  Ctr l Z (⟨"java/lang/String", "<init>", "([C)V"⟩ : MethodName) jdk_42_method_3_code 2 none ({ frames := 5, cells := 2, slots := 6, locals := 74 } : Room) #[(.ref this), (.ref pat)] h0 (fun v h L => ∃ b : Addr, v = none ∧ Fr n0 L ∧ Keep h0 h [this] ∧ Exa Z h this "java/lang/String" ∧ Fld Z h this "java/lang/String" "value" "[B" (.ref b) ∧ Fld Z h this "java/lang/String" "coder" "B" (.int 1) ∧ Ars Z h b .byte [(.int (c0 >>> ((0 : Int32) &&& 31)).toInt8.toInt32), (.int (c0 >>> ((8 : Int32) &&& 31)).toInt8.toInt32), (.int (c1 >>> ((0 : Int32) &&& 31)).toInt8.toInt32), (.int (c1 >>> ((8 : Int32) &&& 31)).toInt8.toInt32)]) := by
 refine Ctr.of (plainFor_of_name pn_1) (fun m => ef_c_si1_2_1 m this pat) ?_
 intro p e s m below meth c T0 hx hby hml hown hnm hret hlk hZ e0 X0
 have N0 := Fr.nil n0
 replace hown : s.vm.findClass "java/lang/String" = some m.cls := hown
 replace hml : c.maxLocals = 2 := hml
 have KP := Keep.refl h0 [this]
 refine Run.x_aloadN (q := 1) X0 hx (hb hby d16_0) rfl rfl rfl ?_
 refine Run.x_aloadN (q := 2) X0 hx (hb hby d16_1) rfl rfl rfl ?_
 refine Run.x_iconst (q := 3) X0 hx (hb hby d16_2) (z := (0 : Int32)) rfl rfl ?_
 refine Run.x_aloadN (q := 4) X0 hx (hb hby d16_3) rfl rfl rfl ?_
 refine Run.y_alen (q := 5) X0 hx hZ e0 A_pat (z := (2 : Int32)) rfl (hb hby d16_4) rfl ?_
 refine Run.x_null (q := 6) X0 hx (hb hby d16_5)  rfl ?_
 refine Run.callC X0 hx hZ e0 (y := (⟨"java/lang/String", "<init>", "([CIILjava/lang/Void;)V"⟩ : MethodName)) hown rfl (wm12 hw) (wm13 hw) (wm8 hw) (wm15 hw) (by decide) (a := this) (argsL := [(.ref pat), (.int 0), (.int 2), .null]) (rest := []) (c_si4_2_1 l Z a0 hw this pat h0 n0 Z0 cp c0 c1 E_this F_this_value F_this_coder A_pat S_COMPACT_STRINGS S__assertionsDisabled S_HI_BYTE_SHIFT S_LO_BYTE_SHIFT g_this ne_this_pat hcp ha hr0 hr1) pd_11 rfl (by rw [hml]; rfl) (W := 0) rfl (by decide) (by decide) (by decide) (by decide) (hb hby d16_6) rfl ?_
 intro T1 v1 L1 X1 q1
 obtain ⟨bt1, rfl, M1, K1, Es1, Fv1, Fc1, Ab1⟩ := q1
 have N1 := Fr.app N0 M1
 show Run p e below s _ _ _ (T1.setTop (mkF m 9 #[.val (.ref this), .val (.ref pat)] []))
 replace S_COMPACT_STRINGS := Sta_keep S_COMPACT_STRINGS K1 (allS (Exa_ns E_this) all0)
 replace S__assertionsDisabled := Sta_keep S__assertionsDisabled K1 (allS (Exa_ns E_this) all0)
 replace S_HI_BYTE_SHIFT := Sta_keep S_HI_BYTE_SHIFT K1 (allS (Exa_ns E_this) all0)
 replace S_LO_BYTE_SHIFT := Sta_keep S_LO_BYTE_SHIFT K1 (allS (Exa_ns E_this) all0)
 have Z1 : n0 ≤ T1.heap.size := Nat.le_trans Z0 K1.1
 replace KP := KP.trans K1 (allS (Or.inl (by simp)) all0)
 replace A_pat := A_pat.keep K1 (ninS (Ne.symm ne_this_pat) nin0)
 refine Run.retV X1 hx hlk rfl hret (hb hby d16_9) (by decide) (by decide) ?_
 exact ⟨bt1, rfl, N1, KP, Es1, Fv1, Fc1, Ab1⟩
theorem ef_c_mk_2_1 (m : MethodId) (c0 : Int32) (c1 : Int32) (c2 : Int32) : entryFrame m #[(.int 2), (.int c0), (.int c1), (.int c2)] 4 = mkF m 0 #[.val (.int 2), .val (.int c0), .val (.int c1), .val (.int c2)] [] := by first | (simp [entryFrame, mkF, argsToLocals, Value.category]; done) | rfl
set_option maxRecDepth 65536 in
set_option maxHeartbeats 40000000 in
theorem c_mk_2_1 (l : Launch) (Z : State) (a0 : Array Value) (hw : ∀ d ∈ tables_1, d.before a0 Z = true) (c0 : Int32) (c1 : Int32) (c2 : Int32) (h0 : Heap) (n0 : Nat) (Z0 : n0 ≤ h0.size) (cp : Int32) (S_COMPACT_STRINGS : Sta Z h0 "java/lang/String" "COMPACT_STRINGS" "Z" (.int cp)) (S__assertionsDisabled : Sta Z h0 "java/lang/StringUTF16" "$assertionsDisabled" "Z" (.int 1)) (S_HI_BYTE_SHIFT : Sta Z h0 "java/lang/StringUTF16" "HI_BYTE_SHIFT" "I" (.int 0)) (S_LO_BYTE_SHIFT : Sta Z h0 "java/lang/StringUTF16" "LO_BYTE_SHIFT" "I" (.int 8)) (hcp : ¬ cp = (0 : Int32)) (ha : (255 : Int32) < c0 ∨ (255 : Int32) < c1) (hr0 : 0 ≤ c0.toInt ∧ c0.toInt < 65536) (hr1 : 0 ≤ c1.toInt ∧ c1.toInt < 65536) (hr2 : 0 ≤ c2.toInt ∧ c2.toInt < 65536) :
  Ctr l Z (⟨"com/example/sayso/sayso/TextCursorAtPinLaw", "make", "(ICCC)Ljava/lang/String;"⟩ : MethodName) method_2_code 4 (some (.object "java/lang/String")) ({ frames := 6, cells := 4, slots := 12, locals := 88 } : Room) #[(.int 2), (.int c0), (.int c1), (.int c2)] h0 (fun v h L => ∃ b bts : Addr, v = some (.ref b) ∧ Fr n0 L ∧ Keep h0 h [] ∧ h0.size ≤ b ∧ Exa Z h b "java/lang/String" ∧ Fld Z h b "java/lang/String" "value" "[B" (.ref bts) ∧ Fld Z h b "java/lang/String" "coder" "B" (.int 1) ∧ Ars Z h bts .byte [(.int (c0 >>> ((0 : Int32) &&& 31)).toInt8.toInt32), (.int (c0 >>> ((8 : Int32) &&& 31)).toInt8.toInt32), (.int (c1 >>> ((0 : Int32) &&& 31)).toInt8.toInt32), (.int (c1 >>> ((8 : Int32) &&& 31)).toInt8.toInt32)]) := by
 refine Ctr.of (plainFor_of_name pn_4) (fun m => ef_c_mk_2_1 m c0 c1 c2) ?_
 intro p e s m below meth c T0 hx hby hml hown hnm hret hlk hZ e0 X0
 have N0 := Fr.nil n0
 replace hown : s.vm.findClass "com/example/sayso/sayso/TextCursorAtPinLaw" = some m.cls := hown
 replace hml : c.maxLocals = 4 := hml
 have KP := Keep.refl h0 []
 refine Run.x_iloadN (q := 1) X0 hx (hb hby d17_0) rfl rfl ?_
 refine Run.x_ifYes (q := 15) X0 hx (hb hby d17_1) ((if0 _ _).trans (feq (by decide : ¬ ((2 : Int32) = (0 : Int32)))).2) (by decide) (by decide) ?_
 refine Run.x_iloadN (q := 16) X0 hx (hb hby d17_15) rfl rfl ?_
 refine Run.x_iconst (q := 17) X0 hx (hb hby d17_16) (z := (1 : Int32)) rfl rfl ?_
 refine Run.x_icmpYes (q := 35) X0 hx (hb hby d17_17) (feq (by decide : ¬ ((2 : Int32) = (1 : Int32)))).2 (by decide) (by decide) ?_
 refine Run.x_iloadN (q := 36) X0 hx (hb hby d17_35) rfl rfl ?_
 refine Run.x_iconst (q := 37) X0 hx (hb hby d17_36) (z := (2 : Int32)) rfl rfl ?_
 refine Run.x_icmpNo (q := 40) X0 hx (hb hby d17_37) (teq (by decide : (2 : Int32) = (2 : Int32))).2 rfl ?_
 obtain ⟨T1, h1, X1, e1, E1, A1, D1, -, st1⟩ := newO X0 hx hZ hown (wm6 hw) (wm7 hw) (wm8 hw) e0 (g := (mkF m 40 #[.val (.int 2), .val (.int c0), .val (.int c1), .val (.int c2)] [])) rfl (hb hby d17_40) (by decide) (by decide)
 obtain ⟨b1, gg1⟩ : ∃ z, z = h0.size := ⟨_, rfl⟩
 rw [← gg1] at A1 D1 st1
 have g_b1 : n0 ≤ b1 := Nat.le_trans Z0 (Nat.le_of_eq gg1.symm)
 have sz_b1 : h0.size ≤ b1 := Nat.le_trans KP.1 (Nat.le_of_eq gg1.symm)
 have Z1 : n0 ≤ h1.size := Nat.le_trans Z0 E1.1
 replace KP := KP.ext E1
 have E_b1 := A1
 have F_b1_coder : Fld Z h1 b1 "java/lang/String" "coder" "B" (.int 0) := D1 (Or.inr (wm32 hw)) (ty := .byte) (by decide)
 have F_b1_value : Fld Z h1 b1 "java/lang/String" "value" "[B" .null := D1 (Or.inr (wm34 hw)) (ty := (.array .byte)) (by decide)
 refine Run.st st1 ?_
 show Run p e below s _ _ _ (T1.setTop (mkF m 43 #[.val (.int 2), .val (.int c0), .val (.int c1), .val (.int c2)] [(.ref b1)]))
 refine Run.x_dup (q := 44) X1 hx (hb hby d17_43) rfl rfl ?_
 refine Run.x_iconst (q := 45) X1 hx (hb hby d17_44) (z := (2 : Int32)) rfl rfl ?_
 refine Run.newP (aty := .char) X1 hx hZ e1 (wm0 hw) (hb hby d17_45) (len := 2) (by decide) (by decide) (cap := 2) (by decide) (by decide) (by decide) (by decide) ?_
 intro T2 h2 b2 gg2 X2 e2 E2 A_b2
 have g_b2 : n0 ≤ b2 := Nat.le_trans Z1 (Nat.le_of_eq gg2.symm)
 have ne_b1_b2 : b1 ≠ b2 := Nat.ne_of_lt (Nat.lt_of_lt_of_le E_b1.lt (Nat.le_of_eq gg2.symm))
 have sz_b2 : h0.size ≤ b2 := Nat.le_trans KP.1 (Nat.le_of_eq gg2.symm)
 have Z2 : n0 ≤ h2.size := Nat.le_trans Z1 E2.1
 replace KP := KP.ext E2
 replace A_b2 : Ars Z h2 b2 .char [(.int 0), (.int 0)] := A_b2
 show Run p e below s _ _ _ (T2.setTop (mkF m 47 #[.val (.int 2), .val (.int c0), .val (.int c1), .val (.int c2)] [(.ref b2), (.ref b1), (.ref b1)]))
 refine Run.x_dup (q := 48) X2 hx (hb hby d17_47) rfl rfl ?_
 refine Run.x_iconst (q := 49) X2 hx (hb hby d17_48) (z := (0 : Int32)) rfl rfl ?_
 refine Run.x_iloadN (q := 50) X2 hx (hb hby d17_49) rfl rfl ?_
 refine Run.y_stC (q := 51) X2 hx hZ e2 A_b2 (i := 0) (by decide) (Nat.le_of_ble_eq_true rfl) (z' := c0) (own_nr hr0) (hb hby d17_50) rfl fun T3 h3 X3 e3 W3 A3 => ?_
 replace A_b2 : Ars Z h3 b2 .char [(.int c0), (.int 0)] := A3
 replace KP := KP.wr W3 (Or.inr sz_b2)
 have N3 := Fr.snoc X3 N0 g_b2
 have Z3 : n0 ≤ h3.size := Nat.le_trans Z2 (Nat.le_of_eq W3.size.symm)
 refine Run.x_dup (q := 52) X3 hx (hb hby d17_51) rfl rfl ?_
 refine Run.x_iconst (q := 53) X3 hx (hb hby d17_52) (z := (1 : Int32)) rfl rfl ?_
 refine Run.x_iloadN (q := 54) X3 hx (hb hby d17_53) rfl rfl ?_
 refine Run.y_stC (q := 55) X3 hx hZ e3 A_b2 (i := 1) (by decide) (Nat.le_of_ble_eq_true rfl) (z' := c1) (own_nr hr1) (hb hby d17_54) rfl fun T4 h4 X4 e4 W4 A4 => ?_
 replace A_b2 : Ars Z h4 b2 .char [(.int c0), (.int c1)] := A4
 replace KP := KP.wr W4 (Or.inr sz_b2)
 have N4 := Fr.snoc X4 N3 g_b2
 have Z4 : n0 ≤ h4.size := Nat.le_trans Z3 (Nat.le_of_eq W4.size.symm)
 replace E_b1 := ((E_b1.ext E2).wr W3).wr W4
 replace F_b1_value := ((F_b1_value.ext E2).other W3 (Or.inl ne_b1_b2)).other W4 (Or.inl ne_b1_b2)
 replace F_b1_coder := ((F_b1_coder.ext E2).other W3 (Or.inl ne_b1_b2)).other W4 (Or.inl ne_b1_b2)
 replace S_COMPACT_STRINGS := (((S_COMPACT_STRINGS.ext E1).ext E2).wr W3).wr W4
 replace S__assertionsDisabled := (((S__assertionsDisabled.ext E1).ext E2).wr W3).wr W4
 replace S_HI_BYTE_SHIFT := (((S_HI_BYTE_SHIFT.ext E1).ext E2).wr W3).wr W4
 replace S_LO_BYTE_SHIFT := (((S_LO_BYTE_SHIFT.ext E1).ext E2).wr W3).wr W4
 refine Run.callC X4 hx hZ e4 (y := (⟨"java/lang/String", "<init>", "([C)V"⟩ : MethodName)) hown rfl (wm9 hw) (wm10 hw) (wm8 hw) (wm11 hw) (by decide) (a := b1) (argsL := [(.ref b2)]) (rest := [(.ref b1)]) (c_si1_2_1 l Z a0 hw b1 b2 h4 n0 Z4 cp c0 c1 E_b1 F_b1_value F_b1_coder A_b2 S_COMPACT_STRINGS S__assertionsDisabled S_HI_BYTE_SHIFT S_LO_BYTE_SHIFT g_b1 ne_b1_b2 hcp ha hr0 hr1) pd_12 rfl (by rw [hml]; rfl) (W := 1) rfl (by decide) (by decide) (by decide) (by decide) (hb hby d17_55) rfl ?_
 intro T5 v5 L5 X5 q5
 obtain ⟨bt5, rfl, M5, K5, Es5, Fv5, Fc5, Ab5⟩ := q5
 have N5 := Fr.app N4 M5
 show Run p e below s _ _ _ (T5.setTop (mkF m 58 #[.val (.int 2), .val (.int c0), .val (.int c1), .val (.int c2)] [(.ref b1)]))
 replace S_COMPACT_STRINGS := Sta_keep S_COMPACT_STRINGS K5 (allS (Exa_ns E_b1) all0)
 replace S__assertionsDisabled := Sta_keep S__assertionsDisabled K5 (allS (Exa_ns E_b1) all0)
 replace S_HI_BYTE_SHIFT := Sta_keep S_HI_BYTE_SHIFT K5 (allS (Exa_ns E_b1) all0)
 replace S_LO_BYTE_SHIFT := Sta_keep S_LO_BYTE_SHIFT K5 (allS (Exa_ns E_b1) all0)
 have Z5 : n0 ≤ T5.heap.size := Nat.le_trans Z4 K5.1
 replace KP := KP.trans K5 (allS (Or.inr sz_b1) all0)
 replace A_b2 := A_b2.keep K5 (ninS (Ne.symm ne_b1_b2) nin0)
 refine Run.retA X5 hx hlk rfl (t := (.object "java/lang/String")) hret rfl rfl rfl (hb hby d17_58) (by decide) (by decide) ?_
 exact ⟨b1, bt5, rfl, N5, KP, sz_b1, Es5, Fv5, Fc5, Ab5⟩
theorem ef_c_si4_3_0 (m : MethodId) (this : Addr) (pat : Addr) : entryFrame m #[(.ref this), (.ref pat), (.int 0), (.int 3), .null] 6 = mkF m 0 #[.val (.ref this), .val (.ref pat), .val (.int 0), .val (.int 3), .val .null, .unset] [] := by first | (simp [entryFrame, mkF, argsToLocals, Value.category]; done) | rfl
set_option maxRecDepth 65536 in
set_option maxHeartbeats 40000000 in
theorem c_si4_3_0 (l : Launch) (Z : State) (a0 : Array Value) (hw : ∀ d ∈ tables_1, d.before a0 Z = true) (this : Addr) (pat : Addr) (h0 : Heap) (n0 : Nat) (Z0 : n0 ≤ h0.size) (cp : Int32) (c0 : Int32) (c1 : Int32) (c2 : Int32) (E_this : Exa Z h0 this "java/lang/String") (F_this_value : Fld Z h0 this "java/lang/String" "value" "[B" .null) (F_this_coder : Fld Z h0 this "java/lang/String" "coder" "B" (.int 0)) (A_pat : Ars Z h0 pat .char [(.int c0), (.int c1), (.int c2)]) (S_COMPACT_STRINGS : Sta Z h0 "java/lang/String" "COMPACT_STRINGS" "Z" (.int cp)) (g_this : n0 ≤ this) (ne_this_pat : this ≠ pat) (hcp : ¬ cp = (0 : Int32)) (ha0 : ¬ (255 : Int32) < c0) (ha1 : ¬ (255 : Int32) < c1) (ha2 : ¬ (255 : Int32) < c2) (hr0 : 0 ≤ c0.toInt ∧ c0.toInt < 65536) (hr1 : 0 ≤ c1.toInt ∧ c1.toInt < 65536) (hr2 : 0 ≤ c2.toInt ∧ c2.toInt < 65536) :
  Ctr l Z (⟨"java/lang/String", "<init>", "([CIILjava/lang/Void;)V"⟩ : MethodName) jdk_42_method_149_code 6 none ({ frames := 2, cells := 1, slots := 3, locals := 35 } : Room) #[(.ref this), (.ref pat), (.int 0), (.int 3), .null] h0 (fun v h L => ∃ b : Addr, v = none ∧ Fr n0 L ∧ Keep h0 h [this] ∧ Exa Z h this "java/lang/String" ∧ Fld Z h this "java/lang/String" "value" "[B" (.ref b) ∧ Fld Z h this "java/lang/String" "coder" "B" (.int 0) ∧ Ars Z h b .byte [(.int c0.toInt8.toInt32), (.int c1.toInt8.toInt32), (.int c2.toInt8.toInt32)]) := by
 refine Ctr.of (plainFor_of_name pn_1) (fun m => ef_c_si4_3_0 m this pat) ?_
 intro p e s m below meth c T0 hx hby hml hown hnm hret hlk hZ e0 X0
 have N0 := Fr.nil n0
 replace hown : s.vm.findClass "java/lang/String" = some m.cls := hown
 replace hml : c.maxLocals = 6 := hml
 have KP := Keep.refl h0 [this]
 refine Run.x_aloadN (q := 1) X0 hx (hb hby d15_0) rfl rfl rfl ?_
 refine Run.init X0 hx hZ e0 hown (wm16 hw) (wm17 hw) (wm18 hw) (by rw [hml]; rfl) (hb hby d15_1) (by decide) (W := 0) rfl (by decide) ?_
 intro T1 X1 e1
 show Run p e below s _ _ _ (T1.setTop (mkF m 4 #[.val (.ref this), .val (.ref pat), .val (.int 0), .val (.int 3), .val .null, .unset] []))
 refine Run.x_iloadN (q := 5) X1 hx (hb hby d15_4) rfl rfl ?_
 refine Run.x_ifYes (q := 27) X1 hx (hb hby d15_5) ((if0 _ _).trans (feq (by decide : ¬ ((3 : Int32) = (0 : Int32)))).2) (by decide) (by decide) ?_
 obtain ⟨T2, X2, e2, st2⟩ := getS2 X1 hx hZ hown (host := "") (Or.inl (wm19 hw)) Via.refl e1 S_COMPACT_STRINGS (g := (mkF m 27 #[.val (.ref this), .val (.ref pat), .val (.int 0), .val (.int 3), .val .null, .unset] [])) rfl (hb hby d15_27)
 refine Run.st st2 ?_
 show Run p e below s _ _ _ (T2.setTop (mkF m 30 #[.val (.ref this), .val (.ref pat), .val (.int 0), .val (.int 3), .val .null, .unset] [(.int cp)]))
 refine Run.x_ifNo (q := 33) X2 hx (hb hby d15_30) ((if0 _ _).trans (feq hcp).1) rfl ?_
 refine Run.x_aloadN (q := 34) X2 hx (hb hby d15_33) rfl rfl rfl ?_
 refine Run.x_iloadN (q := 35) X2 hx (hb hby d15_34) rfl rfl ?_
 refine Run.x_iloadN (q := 36) X2 hx (hb hby d15_35) rfl rfl ?_
 refine Run.callS X2 hx hZ e2 (y := (⟨"java/lang/StringUTF16", "compress", "([CII)[B"⟩ : MethodName)) hown (wm20 hw) (wm21 hw) (wm22 hw) (wm23 hw) (by decide) (argsL := [(.ref pat), (.int 0), (.int 3)]) (rest := []) (c_cm3_3_0 l Z a0 hw pat h0 n0 Z0 c0 c1 c2 A_pat ha0 ha1 ha2 hr0 hr1 hr2) pd_9 rfl (by rw [hml]; rfl) (W := 0) rfl (by decide) (by decide) (by decide) (by decide) (hb hby d15_36) rfl ?_
 intro T3 v3 L3 X3 q3
 obtain ⟨np3, rfl, M3, K3, sz3, An3⟩ := q3
 have N3 := Fr.app N0 M3
 show Run p e below s _ _ _ (T3.setTop (mkF m 39 #[.val (.ref this), .val (.ref pat), .val (.int 0), .val (.int 3), .val .null, .unset] [(.ref np3)]))
 have ne_this_np3 : this ≠ np3 := Nat.ne_of_lt (Nat.lt_of_lt_of_le E_this.lt sz3)
 have ne_pat_np3 : pat ≠ np3 := Nat.ne_of_lt (Nat.lt_of_lt_of_le A_pat.lt sz3)
 have g_np3 : n0 ≤ np3 := Nat.le_trans Z0 sz3
 have sz_np3 : h0.size ≤ np3 := Nat.le_trans KP.1 sz3
 replace S_COMPACT_STRINGS := Sta_keep S_COMPACT_STRINGS K3 all0
 have Z3 : n0 ≤ T3.heap.size := Nat.le_trans Z0 K3.1
 replace KP := KP.trans K3 all0
 refine Run.x_astore (q := 41) X3 hx #[.val (.ref this), .val (.ref pat), .val (.int 0), .val (.int 3), .val .null, .val (.ref np3)] (hb hby d15_39) rfl rfl rfl ?_
 refine Run.x_aloadN (q := 42) X3 hx (hb hby d15_41) rfl rfl rfl ?_
 refine Run.x_aload (q := 44) X3 hx (hb hby d15_42) rfl rfl rfl ?_
 refine Run.x_iloadN (q := 45) X3 hx (hb hby d15_44) rfl rfl ?_
 refine Run.callSI (q := 48) X3 hx hZ rfl (y := (⟨"java/lang/StringUTF16", "coderFromArrayLen", "([BI)B"⟩ : MethodName)) hown (wm28 hw) (wm29 hw) (wm22 hw) (wm30 hw) (by decide) (argsL := [(.ref np3), (.int 3)]) (rest := [(.ref this)]) (c_cfa l Z a0 hw np3 (3 : Int32) T3.heap n0 Z3 [(.int c0.toInt8.toInt32), (.int c1.toInt8.toInt32), (.int c2.toInt8.toInt32)] (3 : Int32) (0 : Int32) An3 rfl (by decide)) pd_10 rfl (by rw [hml]; rfl) (W := 1) rfl (by decide) (by decide) (by decide) (by decide) (hb hby d15_45) rfl rfl fun T4 L4 X4 M4 e4 => ?_
 have N4 := Fr.app N3 M4
 replace F_this_coder := F_this_coder.keep K3 nin0
 replace E_this := E_this.keep K3
 obtain ⟨T5, h5, X5, e5, W5, st5⟩ := putFN X4 hx hZ hown (wm31 hw) Via.refl e4 F_this_coder E_this (Or.inr ⟨(wm32 hw), rfl, hnm⟩) (wm7 hw) (ty := .byte) (v' := (.int 0)) (by decide) rfl (by decide) (g := (mkF m 48 #[.val (.ref this), .val (.ref pat), .val (.int 0), .val (.int 3), .val .null, .val (.ref np3)] [(.int 0), (.ref this)])) rfl rfl (hb hby d15_48)
 replace F_this_coder := F_this_coder.same W5
 have Z5 : n0 ≤ h5.size := Nat.le_trans Z3 (Nat.le_of_eq W5.size.symm)
 replace KP := KP.wr W5 (Or.inl (by simp))
 have N5 := Fr.snoc X5 N4 g_this
 refine Run.st st5 ?_
 show Run p e below s _ _ _ (T5.setTop (mkF m 51 #[.val (.ref this), .val (.ref pat), .val (.int 0), .val (.int 3), .val .null, .val (.ref np3)] []))
 refine Run.x_aloadN (q := 52) X5 hx (hb hby d15_51) rfl rfl rfl ?_
 refine Run.x_aload (q := 54) X5 hx (hb hby d15_52) rfl rfl rfl ?_
 replace F_this_value := (F_this_value.keep K3 nin0).other W5 (Or.inr (slot_ne (Or.inr (wm34 hw)) (Or.inr (wm32 hw)) (by decide) (t := (.array .byte)) (t' := .byte) (by decide) (by decide)))
 replace E_this := E_this.wr W5
 obtain ⟨T6, h6, X6, e6, W6, st6⟩ := putF X5 hx hZ hown (host := "") (Or.inl (wm33 hw)) Via.refl e5 F_this_value E_this (Or.inr ⟨(wm34 hw), rfl, hnm⟩) (wm7 hw) (ty := (.array .byte)) (by decide) rfl rfl (g := (mkF m 54 #[.val (.ref this), .val (.ref pat), .val (.int 0), .val (.int 3), .val .null, .val (.ref np3)] [(.ref np3), (.ref this)])) rfl rfl (hb hby d15_54)
 replace F_this_value := F_this_value.same W6
 have Z6 : n0 ≤ h6.size := Nat.le_trans Z5 (Nat.le_of_eq W6.size.symm)
 replace KP := KP.wr W6 (Or.inl (by simp))
 have N6 := Fr.snoc X6 N5 g_this
 refine Run.st st6 ?_
 show Run p e below s _ _ _ (T6.setTop (mkF m 57 #[.val (.ref this), .val (.ref pat), .val (.int 0), .val (.int 3), .val .null, .val (.ref np3)] []))
 replace E_this := E_this.wr W6
 replace F_this_coder := F_this_coder.other W6 (Or.inr (slot_ne (Or.inr (wm32 hw)) (Or.inr (wm34 hw)) (by decide) (t := .byte) (t' := (.array .byte)) (by decide) (by decide)))
 replace A_pat := ((A_pat.keep K3 nin0).other W5 (Ne.symm ne_this_pat)).other W6 (Ne.symm ne_this_pat)
 replace S_COMPACT_STRINGS := (S_COMPACT_STRINGS.wr W5).wr W6
 replace An3 := (An3.other W5 (Ne.symm ne_this_np3)).other W6 (Ne.symm ne_this_np3)
 refine Run.retV X6 hx hlk e6 hret (hb hby d15_57) (by decide) (by decide) ?_
 exact ⟨np3, rfl, N6, KP, E_this, F_this_value, F_this_coder, An3⟩
theorem ef_c_si1_3_0 (m : MethodId) (this : Addr) (pat : Addr) : entryFrame m #[(.ref this), (.ref pat)] 2 = mkF m 0 #[.val (.ref this), .val (.ref pat)] [] := by first | (simp [entryFrame, mkF, argsToLocals, Value.category]; done) | rfl
set_option maxRecDepth 65536 in
set_option maxHeartbeats 40000000 in
theorem c_si1_3_0 (l : Launch) (Z : State) (a0 : Array Value) (hw : ∀ d ∈ tables_1, d.before a0 Z = true) (this : Addr) (pat : Addr) (h0 : Heap) (n0 : Nat) (Z0 : n0 ≤ h0.size) (cp : Int32) (c0 : Int32) (c1 : Int32) (c2 : Int32) (E_this : Exa Z h0 this "java/lang/String") (F_this_value : Fld Z h0 this "java/lang/String" "value" "[B" .null) (F_this_coder : Fld Z h0 this "java/lang/String" "coder" "B" (.int 0)) (A_pat : Ars Z h0 pat .char [(.int c0), (.int c1), (.int c2)]) (S_COMPACT_STRINGS : Sta Z h0 "java/lang/String" "COMPACT_STRINGS" "Z" (.int cp)) (g_this : n0 ≤ this) (ne_this_pat : this ≠ pat) (hcp : ¬ cp = (0 : Int32)) (ha0 : ¬ (255 : Int32) < c0) (ha1 : ¬ (255 : Int32) < c1) (ha2 : ¬ (255 : Int32) < c2) (hr0 : 0 ≤ c0.toInt ∧ c0.toInt < 65536) (hr1 : 0 ≤ c1.toInt ∧ c1.toInt < 65536) (hr2 : 0 ≤ c2.toInt ∧ c2.toInt < 65536) :
  Ctr l Z (⟨"java/lang/String", "<init>", "([C)V"⟩ : MethodName) jdk_42_method_3_code 2 none ({ frames := 3, cells := 1, slots := 3, locals := 52 } : Room) #[(.ref this), (.ref pat)] h0 (fun v h L => ∃ b : Addr, v = none ∧ Fr n0 L ∧ Keep h0 h [this] ∧ Exa Z h this "java/lang/String" ∧ Fld Z h this "java/lang/String" "value" "[B" (.ref b) ∧ Fld Z h this "java/lang/String" "coder" "B" (.int 0) ∧ Ars Z h b .byte [(.int c0.toInt8.toInt32), (.int c1.toInt8.toInt32), (.int c2.toInt8.toInt32)]) := by
 refine Ctr.of (plainFor_of_name pn_1) (fun m => ef_c_si1_3_0 m this pat) ?_
 intro p e s m below meth c T0 hx hby hml hown hnm hret hlk hZ e0 X0
 have N0 := Fr.nil n0
 replace hown : s.vm.findClass "java/lang/String" = some m.cls := hown
 replace hml : c.maxLocals = 2 := hml
 have KP := Keep.refl h0 [this]
 refine Run.x_aloadN (q := 1) X0 hx (hb hby d16_0) rfl rfl rfl ?_
 refine Run.x_aloadN (q := 2) X0 hx (hb hby d16_1) rfl rfl rfl ?_
 refine Run.x_iconst (q := 3) X0 hx (hb hby d16_2) (z := (0 : Int32)) rfl rfl ?_
 refine Run.x_aloadN (q := 4) X0 hx (hb hby d16_3) rfl rfl rfl ?_
 refine Run.y_alen (q := 5) X0 hx hZ e0 A_pat (z := (3 : Int32)) rfl (hb hby d16_4) rfl ?_
 refine Run.x_null (q := 6) X0 hx (hb hby d16_5)  rfl ?_
 refine Run.callC X0 hx hZ e0 (y := (⟨"java/lang/String", "<init>", "([CIILjava/lang/Void;)V"⟩ : MethodName)) hown rfl (wm12 hw) (wm13 hw) (wm8 hw) (wm15 hw) (by decide) (a := this) (argsL := [(.ref pat), (.int 0), (.int 3), .null]) (rest := []) (c_si4_3_0 l Z a0 hw this pat h0 n0 Z0 cp c0 c1 c2 E_this F_this_value F_this_coder A_pat S_COMPACT_STRINGS g_this ne_this_pat hcp ha0 ha1 ha2 hr0 hr1 hr2) pd_11 rfl (by rw [hml]; rfl) (W := 0) rfl (by decide) (by decide) (by decide) (by decide) (hb hby d16_6) rfl ?_
 intro T1 v1 L1 X1 q1
 obtain ⟨bt1, rfl, M1, K1, Es1, Fv1, Fc1, Ab1⟩ := q1
 have N1 := Fr.app N0 M1
 show Run p e below s _ _ _ (T1.setTop (mkF m 9 #[.val (.ref this), .val (.ref pat)] []))
 replace S_COMPACT_STRINGS := Sta_keep S_COMPACT_STRINGS K1 (allS (Exa_ns E_this) all0)
 have Z1 : n0 ≤ T1.heap.size := Nat.le_trans Z0 K1.1
 replace KP := KP.trans K1 (allS (Or.inl (by simp)) all0)
 replace A_pat := A_pat.keep K1 (ninS (Ne.symm ne_this_pat) nin0)
 refine Run.retV X1 hx hlk rfl hret (hb hby d16_9) (by decide) (by decide) ?_
 exact ⟨bt1, rfl, N1, KP, Es1, Fv1, Fc1, Ab1⟩
theorem ef_c_mk_3_0 (m : MethodId) (c0 : Int32) (c1 : Int32) (c2 : Int32) : entryFrame m #[(.int 3), (.int c0), (.int c1), (.int c2)] 4 = mkF m 0 #[.val (.int 3), .val (.int c0), .val (.int c1), .val (.int c2)] [] := by first | (simp [entryFrame, mkF, argsToLocals, Value.category]; done) | rfl
set_option maxRecDepth 65536 in
set_option maxHeartbeats 40000000 in
theorem c_mk_3_0 (l : Launch) (Z : State) (a0 : Array Value) (hw : ∀ d ∈ tables_1, d.before a0 Z = true) (c0 : Int32) (c1 : Int32) (c2 : Int32) (h0 : Heap) (n0 : Nat) (Z0 : n0 ≤ h0.size) (cp : Int32) (S_COMPACT_STRINGS : Sta Z h0 "java/lang/String" "COMPACT_STRINGS" "Z" (.int cp)) (hcp : ¬ cp = (0 : Int32)) (ha0 : ¬ (255 : Int32) < c0) (ha1 : ¬ (255 : Int32) < c1) (ha2 : ¬ (255 : Int32) < c2) (hr0 : 0 ≤ c0.toInt ∧ c0.toInt < 65536) (hr1 : 0 ≤ c1.toInt ∧ c1.toInt < 65536) (hr2 : 0 ≤ c2.toInt ∧ c2.toInt < 65536) :
  Ctr l Z (⟨"com/example/sayso/sayso/TextCursorAtPinLaw", "make", "(ICCC)Ljava/lang/String;"⟩ : MethodName) method_2_code 4 (some (.object "java/lang/String")) ({ frames := 4, cells := 3, slots := 10, locals := 66 } : Room) #[(.int 3), (.int c0), (.int c1), (.int c2)] h0 (fun v h L => ∃ b bts : Addr, v = some (.ref b) ∧ Fr n0 L ∧ Keep h0 h [] ∧ h0.size ≤ b ∧ Exa Z h b "java/lang/String" ∧ Fld Z h b "java/lang/String" "value" "[B" (.ref bts) ∧ Fld Z h b "java/lang/String" "coder" "B" (.int 0) ∧ Ars Z h bts .byte [(.int c0.toInt8.toInt32), (.int c1.toInt8.toInt32), (.int c2.toInt8.toInt32)]) := by
 refine Ctr.of (plainFor_of_name pn_4) (fun m => ef_c_mk_3_0 m c0 c1 c2) ?_
 intro p e s m below meth c T0 hx hby hml hown hnm hret hlk hZ e0 X0
 have N0 := Fr.nil n0
 replace hown : s.vm.findClass "com/example/sayso/sayso/TextCursorAtPinLaw" = some m.cls := hown
 replace hml : c.maxLocals = 4 := hml
 have KP := Keep.refl h0 []
 refine Run.x_iloadN (q := 1) X0 hx (hb hby d17_0) rfl rfl ?_
 refine Run.x_ifYes (q := 15) X0 hx (hb hby d17_1) ((if0 _ _).trans (feq (by decide : ¬ ((3 : Int32) = (0 : Int32)))).2) (by decide) (by decide) ?_
 refine Run.x_iloadN (q := 16) X0 hx (hb hby d17_15) rfl rfl ?_
 refine Run.x_iconst (q := 17) X0 hx (hb hby d17_16) (z := (1 : Int32)) rfl rfl ?_
 refine Run.x_icmpYes (q := 35) X0 hx (hb hby d17_17) (feq (by decide : ¬ ((3 : Int32) = (1 : Int32)))).2 (by decide) (by decide) ?_
 refine Run.x_iloadN (q := 36) X0 hx (hb hby d17_35) rfl rfl ?_
 refine Run.x_iconst (q := 37) X0 hx (hb hby d17_36) (z := (2 : Int32)) rfl rfl ?_
 refine Run.x_icmpYes (q := 59) X0 hx (hb hby d17_37) (feq (by decide : ¬ ((3 : Int32) = (2 : Int32)))).2 (by decide) (by decide) ?_
 obtain ⟨T1, h1, X1, e1, E1, A1, D1, -, st1⟩ := newO X0 hx hZ hown (wm6 hw) (wm7 hw) (wm8 hw) e0 (g := (mkF m 59 #[.val (.int 3), .val (.int c0), .val (.int c1), .val (.int c2)] [])) rfl (hb hby d17_59) (by decide) (by decide)
 obtain ⟨b1, gg1⟩ : ∃ z, z = h0.size := ⟨_, rfl⟩
 rw [← gg1] at A1 D1 st1
 have g_b1 : n0 ≤ b1 := Nat.le_trans Z0 (Nat.le_of_eq gg1.symm)
 have sz_b1 : h0.size ≤ b1 := Nat.le_trans KP.1 (Nat.le_of_eq gg1.symm)
 have Z1 : n0 ≤ h1.size := Nat.le_trans Z0 E1.1
 replace KP := KP.ext E1
 have E_b1 := A1
 have F_b1_coder : Fld Z h1 b1 "java/lang/String" "coder" "B" (.int 0) := D1 (Or.inr (wm32 hw)) (ty := .byte) (by decide)
 have F_b1_value : Fld Z h1 b1 "java/lang/String" "value" "[B" .null := D1 (Or.inr (wm34 hw)) (ty := (.array .byte)) (by decide)
 refine Run.st st1 ?_
 show Run p e below s _ _ _ (T1.setTop (mkF m 62 #[.val (.int 3), .val (.int c0), .val (.int c1), .val (.int c2)] [(.ref b1)]))
 refine Run.x_dup (q := 63) X1 hx (hb hby d17_62) rfl rfl ?_
 refine Run.x_iconst (q := 64) X1 hx (hb hby d17_63) (z := (3 : Int32)) rfl rfl ?_
 refine Run.newP (aty := .char) X1 hx hZ e1 (wm0 hw) (hb hby d17_64) (len := 3) (by decide) (by decide) (cap := 3) (by decide) (by decide) (by decide) (by decide) ?_
 intro T2 h2 b2 gg2 X2 e2 E2 A_b2
 have g_b2 : n0 ≤ b2 := Nat.le_trans Z1 (Nat.le_of_eq gg2.symm)
 have ne_b1_b2 : b1 ≠ b2 := Nat.ne_of_lt (Nat.lt_of_lt_of_le E_b1.lt (Nat.le_of_eq gg2.symm))
 have sz_b2 : h0.size ≤ b2 := Nat.le_trans KP.1 (Nat.le_of_eq gg2.symm)
 have Z2 : n0 ≤ h2.size := Nat.le_trans Z1 E2.1
 replace KP := KP.ext E2
 replace A_b2 : Ars Z h2 b2 .char [(.int 0), (.int 0), (.int 0)] := A_b2
 show Run p e below s _ _ _ (T2.setTop (mkF m 66 #[.val (.int 3), .val (.int c0), .val (.int c1), .val (.int c2)] [(.ref b2), (.ref b1), (.ref b1)]))
 refine Run.x_dup (q := 67) X2 hx (hb hby d17_66) rfl rfl ?_
 refine Run.x_iconst (q := 68) X2 hx (hb hby d17_67) (z := (0 : Int32)) rfl rfl ?_
 refine Run.x_iloadN (q := 69) X2 hx (hb hby d17_68) rfl rfl ?_
 refine Run.y_stC (q := 70) X2 hx hZ e2 A_b2 (i := 0) (by decide) (Nat.le_of_ble_eq_true rfl) (z' := c0) (own_nr hr0) (hb hby d17_69) rfl fun T3 h3 X3 e3 W3 A3 => ?_
 replace A_b2 : Ars Z h3 b2 .char [(.int c0), (.int 0), (.int 0)] := A3
 replace KP := KP.wr W3 (Or.inr sz_b2)
 have N3 := Fr.snoc X3 N0 g_b2
 have Z3 : n0 ≤ h3.size := Nat.le_trans Z2 (Nat.le_of_eq W3.size.symm)
 refine Run.x_dup (q := 71) X3 hx (hb hby d17_70) rfl rfl ?_
 refine Run.x_iconst (q := 72) X3 hx (hb hby d17_71) (z := (1 : Int32)) rfl rfl ?_
 refine Run.x_iloadN (q := 73) X3 hx (hb hby d17_72) rfl rfl ?_
 refine Run.y_stC (q := 74) X3 hx hZ e3 A_b2 (i := 1) (by decide) (Nat.le_of_ble_eq_true rfl) (z' := c1) (own_nr hr1) (hb hby d17_73) rfl fun T4 h4 X4 e4 W4 A4 => ?_
 replace A_b2 : Ars Z h4 b2 .char [(.int c0), (.int c1), (.int 0)] := A4
 replace KP := KP.wr W4 (Or.inr sz_b2)
 have N4 := Fr.snoc X4 N3 g_b2
 have Z4 : n0 ≤ h4.size := Nat.le_trans Z3 (Nat.le_of_eq W4.size.symm)
 refine Run.x_dup (q := 75) X4 hx (hb hby d17_74) rfl rfl ?_
 refine Run.x_iconst (q := 76) X4 hx (hb hby d17_75) (z := (2 : Int32)) rfl rfl ?_
 refine Run.x_iloadN (q := 77) X4 hx (hb hby d17_76) rfl rfl ?_
 refine Run.y_stC (q := 78) X4 hx hZ e4 A_b2 (i := 2) (by decide) (Nat.le_of_ble_eq_true rfl) (z' := c2) (own_nr hr2) (hb hby d17_77) rfl fun T5 h5 X5 e5 W5 A5 => ?_
 replace A_b2 : Ars Z h5 b2 .char [(.int c0), (.int c1), (.int c2)] := A5
 replace KP := KP.wr W5 (Or.inr sz_b2)
 have N5 := Fr.snoc X5 N4 g_b2
 have Z5 : n0 ≤ h5.size := Nat.le_trans Z4 (Nat.le_of_eq W5.size.symm)
 replace E_b1 := (((E_b1.ext E2).wr W3).wr W4).wr W5
 replace F_b1_value := (((F_b1_value.ext E2).other W3 (Or.inl ne_b1_b2)).other W4 (Or.inl ne_b1_b2)).other W5 (Or.inl ne_b1_b2)
 replace F_b1_coder := (((F_b1_coder.ext E2).other W3 (Or.inl ne_b1_b2)).other W4 (Or.inl ne_b1_b2)).other W5 (Or.inl ne_b1_b2)
 replace S_COMPACT_STRINGS := ((((S_COMPACT_STRINGS.ext E1).ext E2).wr W3).wr W4).wr W5
 refine Run.callC X5 hx hZ e5 (y := (⟨"java/lang/String", "<init>", "([C)V"⟩ : MethodName)) hown rfl (wm9 hw) (wm10 hw) (wm8 hw) (wm11 hw) (by decide) (a := b1) (argsL := [(.ref b2)]) (rest := [(.ref b1)]) (c_si1_3_0 l Z a0 hw b1 b2 h5 n0 Z5 cp c0 c1 c2 E_b1 F_b1_value F_b1_coder A_b2 S_COMPACT_STRINGS g_b1 ne_b1_b2 hcp ha0 ha1 ha2 hr0 hr1 hr2) pd_12 rfl (by rw [hml]; rfl) (W := 1) rfl (by decide) (by decide) (by decide) (by decide) (hb hby d17_78) rfl ?_
 intro T6 v6 L6 X6 q6
 obtain ⟨bt6, rfl, M6, K6, Es6, Fv6, Fc6, Ab6⟩ := q6
 have N6 := Fr.app N5 M6
 show Run p e below s _ _ _ (T6.setTop (mkF m 81 #[.val (.int 3), .val (.int c0), .val (.int c1), .val (.int c2)] [(.ref b1)]))
 replace S_COMPACT_STRINGS := Sta_keep S_COMPACT_STRINGS K6 (allS (Exa_ns E_b1) all0)
 have Z6 : n0 ≤ T6.heap.size := Nat.le_trans Z5 K6.1
 replace KP := KP.trans K6 (allS (Or.inr sz_b1) all0)
 replace A_b2 := A_b2.keep K6 (ninS (Ne.symm ne_b1_b2) nin0)
 refine Run.retA X6 hx hlk rfl (t := (.object "java/lang/String")) hret rfl rfl rfl (hb hby d17_81) (by decide) (by decide) ?_
 exact ⟨b1, bt6, rfl, N6, KP, sz_b1, Es6, Fv6, Fc6, Ab6⟩
theorem ef_c_si4_3_1 (m : MethodId) (this : Addr) (pat : Addr) : entryFrame m #[(.ref this), (.ref pat), (.int 0), (.int 3), .null] 6 = mkF m 0 #[.val (.ref this), .val (.ref pat), .val (.int 0), .val (.int 3), .val .null, .unset] [] := by first | (simp [entryFrame, mkF, argsToLocals, Value.category]; done) | rfl
set_option maxRecDepth 65536 in
set_option maxHeartbeats 40000000 in
theorem c_si4_3_1 (l : Launch) (Z : State) (a0 : Array Value) (hw : ∀ d ∈ tables_1, d.before a0 Z = true) (this : Addr) (pat : Addr) (h0 : Heap) (n0 : Nat) (Z0 : n0 ≤ h0.size) (cp : Int32) (c0 : Int32) (c1 : Int32) (c2 : Int32) (E_this : Exa Z h0 this "java/lang/String") (F_this_value : Fld Z h0 this "java/lang/String" "value" "[B" .null) (F_this_coder : Fld Z h0 this "java/lang/String" "coder" "B" (.int 0)) (A_pat : Ars Z h0 pat .char [(.int c0), (.int c1), (.int c2)]) (S_COMPACT_STRINGS : Sta Z h0 "java/lang/String" "COMPACT_STRINGS" "Z" (.int cp)) (S__assertionsDisabled : Sta Z h0 "java/lang/StringUTF16" "$assertionsDisabled" "Z" (.int 1)) (S_HI_BYTE_SHIFT : Sta Z h0 "java/lang/StringUTF16" "HI_BYTE_SHIFT" "I" (.int 0)) (S_LO_BYTE_SHIFT : Sta Z h0 "java/lang/StringUTF16" "LO_BYTE_SHIFT" "I" (.int 8)) (g_this : n0 ≤ this) (ne_this_pat : this ≠ pat) (hcp : ¬ cp = (0 : Int32)) (ha : (255 : Int32) < c0 ∨ (255 : Int32) < c1 ∨ (255 : Int32) < c2) (hr0 : 0 ≤ c0.toInt ∧ c0.toInt < 65536) (hr1 : 0 ≤ c1.toInt ∧ c1.toInt < 65536) (hr2 : 0 ≤ c2.toInt ∧ c2.toInt < 65536) :
  Ctr l Z (⟨"java/lang/String", "<init>", "([CIILjava/lang/Void;)V"⟩ : MethodName) jdk_42_method_149_code 6 none ({ frames := 4, cells := 2, slots := 9, locals := 57 } : Room) #[(.ref this), (.ref pat), (.int 0), (.int 3), .null] h0 (fun v h L => ∃ b : Addr, v = none ∧ Fr n0 L ∧ Keep h0 h [this] ∧ Exa Z h this "java/lang/String" ∧ Fld Z h this "java/lang/String" "value" "[B" (.ref b) ∧ Fld Z h this "java/lang/String" "coder" "B" (.int 1) ∧ Ars Z h b .byte [(.int (c0 >>> ((0 : Int32) &&& 31)).toInt8.toInt32), (.int (c0 >>> ((8 : Int32) &&& 31)).toInt8.toInt32), (.int (c1 >>> ((0 : Int32) &&& 31)).toInt8.toInt32), (.int (c1 >>> ((8 : Int32) &&& 31)).toInt8.toInt32), (.int (c2 >>> ((0 : Int32) &&& 31)).toInt8.toInt32), (.int (c2 >>> ((8 : Int32) &&& 31)).toInt8.toInt32)]) := by
 refine Ctr.of (plainFor_of_name pn_1) (fun m => ef_c_si4_3_1 m this pat) ?_
 intro p e s m below meth c T0 hx hby hml hown hnm hret hlk hZ e0 X0
 have N0 := Fr.nil n0
 replace hown : s.vm.findClass "java/lang/String" = some m.cls := hown
 replace hml : c.maxLocals = 6 := hml
 have KP := Keep.refl h0 [this]
 refine Run.x_aloadN (q := 1) X0 hx (hb hby d15_0) rfl rfl rfl ?_
 refine Run.init X0 hx hZ e0 hown (wm16 hw) (wm17 hw) (wm18 hw) (by rw [hml]; rfl) (hb hby d15_1) (by decide) (W := 0) rfl (by decide) ?_
 intro T1 X1 e1
 show Run p e below s _ _ _ (T1.setTop (mkF m 4 #[.val (.ref this), .val (.ref pat), .val (.int 0), .val (.int 3), .val .null, .unset] []))
 refine Run.x_iloadN (q := 5) X1 hx (hb hby d15_4) rfl rfl ?_
 refine Run.x_ifYes (q := 27) X1 hx (hb hby d15_5) ((if0 _ _).trans (feq (by decide : ¬ ((3 : Int32) = (0 : Int32)))).2) (by decide) (by decide) ?_
 obtain ⟨T2, X2, e2, st2⟩ := getS2 X1 hx hZ hown (host := "") (Or.inl (wm19 hw)) Via.refl e1 S_COMPACT_STRINGS (g := (mkF m 27 #[.val (.ref this), .val (.ref pat), .val (.int 0), .val (.int 3), .val .null, .unset] [])) rfl (hb hby d15_27)
 refine Run.st st2 ?_
 show Run p e below s _ _ _ (T2.setTop (mkF m 30 #[.val (.ref this), .val (.ref pat), .val (.int 0), .val (.int 3), .val .null, .unset] [(.int cp)]))
 refine Run.x_ifNo (q := 33) X2 hx (hb hby d15_30) ((if0 _ _).trans (feq hcp).1) rfl ?_
 refine Run.x_aloadN (q := 34) X2 hx (hb hby d15_33) rfl rfl rfl ?_
 refine Run.x_iloadN (q := 35) X2 hx (hb hby d15_34) rfl rfl ?_
 refine Run.x_iloadN (q := 36) X2 hx (hb hby d15_35) rfl rfl ?_
 refine Run.callS X2 hx hZ e2 (y := (⟨"java/lang/StringUTF16", "compress", "([CII)[B"⟩ : MethodName)) hown (wm20 hw) (wm21 hw) (wm22 hw) (wm23 hw) (by decide) (argsL := [(.ref pat), (.int 0), (.int 3)]) (rest := []) (c_cm3_3_1 l Z a0 hw pat h0 n0 Z0 c0 c1 c2 A_pat S__assertionsDisabled S_HI_BYTE_SHIFT S_LO_BYTE_SHIFT ha hr0 hr1 hr2) pd_9 rfl (by rw [hml]; rfl) (W := 0) rfl (by decide) (by decide) (by decide) (by decide) (hb hby d15_36) rfl ?_
 intro T3 v3 L3 X3 q3
 obtain ⟨np3, rfl, M3, K3, sz3, An3⟩ := q3
 have N3 := Fr.app N0 M3
 show Run p e below s _ _ _ (T3.setTop (mkF m 39 #[.val (.ref this), .val (.ref pat), .val (.int 0), .val (.int 3), .val .null, .unset] [(.ref np3)]))
 have ne_this_np3 : this ≠ np3 := Nat.ne_of_lt (Nat.lt_of_lt_of_le E_this.lt sz3)
 have ne_pat_np3 : pat ≠ np3 := Nat.ne_of_lt (Nat.lt_of_lt_of_le A_pat.lt sz3)
 have g_np3 : n0 ≤ np3 := Nat.le_trans Z0 sz3
 have sz_np3 : h0.size ≤ np3 := Nat.le_trans KP.1 sz3
 replace S_COMPACT_STRINGS := Sta_keep S_COMPACT_STRINGS K3 all0
 replace S__assertionsDisabled := Sta_keep S__assertionsDisabled K3 all0
 replace S_HI_BYTE_SHIFT := Sta_keep S_HI_BYTE_SHIFT K3 all0
 replace S_LO_BYTE_SHIFT := Sta_keep S_LO_BYTE_SHIFT K3 all0
 have Z3 : n0 ≤ T3.heap.size := Nat.le_trans Z0 K3.1
 replace KP := KP.trans K3 all0
 refine Run.x_astore (q := 41) X3 hx #[.val (.ref this), .val (.ref pat), .val (.int 0), .val (.int 3), .val .null, .val (.ref np3)] (hb hby d15_39) rfl rfl rfl ?_
 refine Run.x_aloadN (q := 42) X3 hx (hb hby d15_41) rfl rfl rfl ?_
 refine Run.x_aload (q := 44) X3 hx (hb hby d15_42) rfl rfl rfl ?_
 refine Run.x_iloadN (q := 45) X3 hx (hb hby d15_44) rfl rfl ?_
 refine Run.callSI (q := 48) X3 hx hZ rfl (y := (⟨"java/lang/StringUTF16", "coderFromArrayLen", "([BI)B"⟩ : MethodName)) hown (wm28 hw) (wm29 hw) (wm22 hw) (wm30 hw) (by decide) (argsL := [(.ref np3), (.int 3)]) (rest := [(.ref this)]) (c_cfa l Z a0 hw np3 (3 : Int32) T3.heap n0 Z3 [(.int (c0 >>> ((0 : Int32) &&& 31)).toInt8.toInt32), (.int (c0 >>> ((8 : Int32) &&& 31)).toInt8.toInt32), (.int (c1 >>> ((0 : Int32) &&& 31)).toInt8.toInt32), (.int (c1 >>> ((8 : Int32) &&& 31)).toInt8.toInt32), (.int (c2 >>> ((0 : Int32) &&& 31)).toInt8.toInt32), (.int (c2 >>> ((8 : Int32) &&& 31)).toInt8.toInt32)] (6 : Int32) (1 : Int32) An3 rfl (by decide)) pd_10 rfl (by rw [hml]; rfl) (W := 1) rfl (by decide) (by decide) (by decide) (by decide) (hb hby d15_45) rfl rfl fun T4 L4 X4 M4 e4 => ?_
 have N4 := Fr.app N3 M4
 replace F_this_coder := F_this_coder.keep K3 nin0
 replace E_this := E_this.keep K3
 obtain ⟨T5, h5, X5, e5, W5, st5⟩ := putFN X4 hx hZ hown (wm31 hw) Via.refl e4 F_this_coder E_this (Or.inr ⟨(wm32 hw), rfl, hnm⟩) (wm7 hw) (ty := .byte) (v' := (.int 1)) (by decide) rfl (by decide) (g := (mkF m 48 #[.val (.ref this), .val (.ref pat), .val (.int 0), .val (.int 3), .val .null, .val (.ref np3)] [(.int 1), (.ref this)])) rfl rfl (hb hby d15_48)
 replace F_this_coder := F_this_coder.same W5
 have Z5 : n0 ≤ h5.size := Nat.le_trans Z3 (Nat.le_of_eq W5.size.symm)
 replace KP := KP.wr W5 (Or.inl (by simp))
 have N5 := Fr.snoc X5 N4 g_this
 refine Run.st st5 ?_
 show Run p e below s _ _ _ (T5.setTop (mkF m 51 #[.val (.ref this), .val (.ref pat), .val (.int 0), .val (.int 3), .val .null, .val (.ref np3)] []))
 refine Run.x_aloadN (q := 52) X5 hx (hb hby d15_51) rfl rfl rfl ?_
 refine Run.x_aload (q := 54) X5 hx (hb hby d15_52) rfl rfl rfl ?_
 replace F_this_value := (F_this_value.keep K3 nin0).other W5 (Or.inr (slot_ne (Or.inr (wm34 hw)) (Or.inr (wm32 hw)) (by decide) (t := (.array .byte)) (t' := .byte) (by decide) (by decide)))
 replace E_this := E_this.wr W5
 obtain ⟨T6, h6, X6, e6, W6, st6⟩ := putF X5 hx hZ hown (host := "") (Or.inl (wm33 hw)) Via.refl e5 F_this_value E_this (Or.inr ⟨(wm34 hw), rfl, hnm⟩) (wm7 hw) (ty := (.array .byte)) (by decide) rfl rfl (g := (mkF m 54 #[.val (.ref this), .val (.ref pat), .val (.int 0), .val (.int 3), .val .null, .val (.ref np3)] [(.ref np3), (.ref this)])) rfl rfl (hb hby d15_54)
 replace F_this_value := F_this_value.same W6
 have Z6 : n0 ≤ h6.size := Nat.le_trans Z5 (Nat.le_of_eq W6.size.symm)
 replace KP := KP.wr W6 (Or.inl (by simp))
 have N6 := Fr.snoc X6 N5 g_this
 refine Run.st st6 ?_
 show Run p e below s _ _ _ (T6.setTop (mkF m 57 #[.val (.ref this), .val (.ref pat), .val (.int 0), .val (.int 3), .val .null, .val (.ref np3)] []))
 replace E_this := E_this.wr W6
 replace F_this_coder := F_this_coder.other W6 (Or.inr (slot_ne (Or.inr (wm32 hw)) (Or.inr (wm34 hw)) (by decide) (t := .byte) (t' := (.array .byte)) (by decide) (by decide)))
 replace A_pat := ((A_pat.keep K3 nin0).other W5 (Ne.symm ne_this_pat)).other W6 (Ne.symm ne_this_pat)
 replace S_COMPACT_STRINGS := (S_COMPACT_STRINGS.wr W5).wr W6
 replace S__assertionsDisabled := (S__assertionsDisabled.wr W5).wr W6
 replace S_HI_BYTE_SHIFT := (S_HI_BYTE_SHIFT.wr W5).wr W6
 replace S_LO_BYTE_SHIFT := (S_LO_BYTE_SHIFT.wr W5).wr W6
 replace An3 := (An3.other W5 (Ne.symm ne_this_np3)).other W6 (Ne.symm ne_this_np3)
 refine Run.retV X6 hx hlk e6 hret (hb hby d15_57) (by decide) (by decide) ?_
 exact ⟨np3, rfl, N6, KP, E_this, F_this_value, F_this_coder, An3⟩
theorem ef_c_si1_3_1 (m : MethodId) (this : Addr) (pat : Addr) : entryFrame m #[(.ref this), (.ref pat)] 2 = mkF m 0 #[.val (.ref this), .val (.ref pat)] [] := by first | (simp [entryFrame, mkF, argsToLocals, Value.category]; done) | rfl
set_option maxRecDepth 65536 in
set_option maxHeartbeats 40000000 in
theorem c_si1_3_1 (l : Launch) (Z : State) (a0 : Array Value) (hw : ∀ d ∈ tables_1, d.before a0 Z = true) (this : Addr) (pat : Addr) (h0 : Heap) (n0 : Nat) (Z0 : n0 ≤ h0.size) (cp : Int32) (c0 : Int32) (c1 : Int32) (c2 : Int32) (E_this : Exa Z h0 this "java/lang/String") (F_this_value : Fld Z h0 this "java/lang/String" "value" "[B" .null) (F_this_coder : Fld Z h0 this "java/lang/String" "coder" "B" (.int 0)) (A_pat : Ars Z h0 pat .char [(.int c0), (.int c1), (.int c2)]) (S_COMPACT_STRINGS : Sta Z h0 "java/lang/String" "COMPACT_STRINGS" "Z" (.int cp)) (S__assertionsDisabled : Sta Z h0 "java/lang/StringUTF16" "$assertionsDisabled" "Z" (.int 1)) (S_HI_BYTE_SHIFT : Sta Z h0 "java/lang/StringUTF16" "HI_BYTE_SHIFT" "I" (.int 0)) (S_LO_BYTE_SHIFT : Sta Z h0 "java/lang/StringUTF16" "LO_BYTE_SHIFT" "I" (.int 8)) (g_this : n0 ≤ this) (ne_this_pat : this ≠ pat) (hcp : ¬ cp = (0 : Int32)) (ha : (255 : Int32) < c0 ∨ (255 : Int32) < c1 ∨ (255 : Int32) < c2) (hr0 : 0 ≤ c0.toInt ∧ c0.toInt < 65536) (hr1 : 0 ≤ c1.toInt ∧ c1.toInt < 65536) (hr2 : 0 ≤ c2.toInt ∧ c2.toInt < 65536) :
  Ctr l Z (⟨"java/lang/String", "<init>", "([C)V"⟩ : MethodName) jdk_42_method_3_code 2 none ({ frames := 5, cells := 2, slots := 9, locals := 74 } : Room) #[(.ref this), (.ref pat)] h0 (fun v h L => ∃ b : Addr, v = none ∧ Fr n0 L ∧ Keep h0 h [this] ∧ Exa Z h this "java/lang/String" ∧ Fld Z h this "java/lang/String" "value" "[B" (.ref b) ∧ Fld Z h this "java/lang/String" "coder" "B" (.int 1) ∧ Ars Z h b .byte [(.int (c0 >>> ((0 : Int32) &&& 31)).toInt8.toInt32), (.int (c0 >>> ((8 : Int32) &&& 31)).toInt8.toInt32), (.int (c1 >>> ((0 : Int32) &&& 31)).toInt8.toInt32), (.int (c1 >>> ((8 : Int32) &&& 31)).toInt8.toInt32), (.int (c2 >>> ((0 : Int32) &&& 31)).toInt8.toInt32), (.int (c2 >>> ((8 : Int32) &&& 31)).toInt8.toInt32)]) := by
 refine Ctr.of (plainFor_of_name pn_1) (fun m => ef_c_si1_3_1 m this pat) ?_
 intro p e s m below meth c T0 hx hby hml hown hnm hret hlk hZ e0 X0
 have N0 := Fr.nil n0
 replace hown : s.vm.findClass "java/lang/String" = some m.cls := hown
 replace hml : c.maxLocals = 2 := hml
 have KP := Keep.refl h0 [this]
 refine Run.x_aloadN (q := 1) X0 hx (hb hby d16_0) rfl rfl rfl ?_
 refine Run.x_aloadN (q := 2) X0 hx (hb hby d16_1) rfl rfl rfl ?_
 refine Run.x_iconst (q := 3) X0 hx (hb hby d16_2) (z := (0 : Int32)) rfl rfl ?_
 refine Run.x_aloadN (q := 4) X0 hx (hb hby d16_3) rfl rfl rfl ?_
 refine Run.y_alen (q := 5) X0 hx hZ e0 A_pat (z := (3 : Int32)) rfl (hb hby d16_4) rfl ?_
 refine Run.x_null (q := 6) X0 hx (hb hby d16_5)  rfl ?_
 refine Run.callC X0 hx hZ e0 (y := (⟨"java/lang/String", "<init>", "([CIILjava/lang/Void;)V"⟩ : MethodName)) hown rfl (wm12 hw) (wm13 hw) (wm8 hw) (wm15 hw) (by decide) (a := this) (argsL := [(.ref pat), (.int 0), (.int 3), .null]) (rest := []) (c_si4_3_1 l Z a0 hw this pat h0 n0 Z0 cp c0 c1 c2 E_this F_this_value F_this_coder A_pat S_COMPACT_STRINGS S__assertionsDisabled S_HI_BYTE_SHIFT S_LO_BYTE_SHIFT g_this ne_this_pat hcp ha hr0 hr1 hr2) pd_11 rfl (by rw [hml]; rfl) (W := 0) rfl (by decide) (by decide) (by decide) (by decide) (hb hby d16_6) rfl ?_
 intro T1 v1 L1 X1 q1
 obtain ⟨bt1, rfl, M1, K1, Es1, Fv1, Fc1, Ab1⟩ := q1
 have N1 := Fr.app N0 M1
 show Run p e below s _ _ _ (T1.setTop (mkF m 9 #[.val (.ref this), .val (.ref pat)] []))
 replace S_COMPACT_STRINGS := Sta_keep S_COMPACT_STRINGS K1 (allS (Exa_ns E_this) all0)
 replace S__assertionsDisabled := Sta_keep S__assertionsDisabled K1 (allS (Exa_ns E_this) all0)
 replace S_HI_BYTE_SHIFT := Sta_keep S_HI_BYTE_SHIFT K1 (allS (Exa_ns E_this) all0)
 replace S_LO_BYTE_SHIFT := Sta_keep S_LO_BYTE_SHIFT K1 (allS (Exa_ns E_this) all0)
 have Z1 : n0 ≤ T1.heap.size := Nat.le_trans Z0 K1.1
 replace KP := KP.trans K1 (allS (Or.inl (by simp)) all0)
 replace A_pat := A_pat.keep K1 (ninS (Ne.symm ne_this_pat) nin0)
 refine Run.retV X1 hx hlk rfl hret (hb hby d16_9) (by decide) (by decide) ?_
 exact ⟨bt1, rfl, N1, KP, Es1, Fv1, Fc1, Ab1⟩
theorem ef_c_mk_3_1 (m : MethodId) (c0 : Int32) (c1 : Int32) (c2 : Int32) : entryFrame m #[(.int 3), (.int c0), (.int c1), (.int c2)] 4 = mkF m 0 #[.val (.int 3), .val (.int c0), .val (.int c1), .val (.int c2)] [] := by first | (simp [entryFrame, mkF, argsToLocals, Value.category]; done) | rfl
set_option maxRecDepth 65536 in
set_option maxHeartbeats 40000000 in
theorem c_mk_3_1 (l : Launch) (Z : State) (a0 : Array Value) (hw : ∀ d ∈ tables_1, d.before a0 Z = true) (c0 : Int32) (c1 : Int32) (c2 : Int32) (h0 : Heap) (n0 : Nat) (Z0 : n0 ≤ h0.size) (cp : Int32) (S_COMPACT_STRINGS : Sta Z h0 "java/lang/String" "COMPACT_STRINGS" "Z" (.int cp)) (S__assertionsDisabled : Sta Z h0 "java/lang/StringUTF16" "$assertionsDisabled" "Z" (.int 1)) (S_HI_BYTE_SHIFT : Sta Z h0 "java/lang/StringUTF16" "HI_BYTE_SHIFT" "I" (.int 0)) (S_LO_BYTE_SHIFT : Sta Z h0 "java/lang/StringUTF16" "LO_BYTE_SHIFT" "I" (.int 8)) (hcp : ¬ cp = (0 : Int32)) (ha : (255 : Int32) < c0 ∨ (255 : Int32) < c1 ∨ (255 : Int32) < c2) (hr0 : 0 ≤ c0.toInt ∧ c0.toInt < 65536) (hr1 : 0 ≤ c1.toInt ∧ c1.toInt < 65536) (hr2 : 0 ≤ c2.toInt ∧ c2.toInt < 65536) :
  Ctr l Z (⟨"com/example/sayso/sayso/TextCursorAtPinLaw", "make", "(ICCC)Ljava/lang/String;"⟩ : MethodName) method_2_code 4 (some (.object "java/lang/String")) ({ frames := 6, cells := 4, slots := 16, locals := 88 } : Room) #[(.int 3), (.int c0), (.int c1), (.int c2)] h0 (fun v h L => ∃ b bts : Addr, v = some (.ref b) ∧ Fr n0 L ∧ Keep h0 h [] ∧ h0.size ≤ b ∧ Exa Z h b "java/lang/String" ∧ Fld Z h b "java/lang/String" "value" "[B" (.ref bts) ∧ Fld Z h b "java/lang/String" "coder" "B" (.int 1) ∧ Ars Z h bts .byte [(.int (c0 >>> ((0 : Int32) &&& 31)).toInt8.toInt32), (.int (c0 >>> ((8 : Int32) &&& 31)).toInt8.toInt32), (.int (c1 >>> ((0 : Int32) &&& 31)).toInt8.toInt32), (.int (c1 >>> ((8 : Int32) &&& 31)).toInt8.toInt32), (.int (c2 >>> ((0 : Int32) &&& 31)).toInt8.toInt32), (.int (c2 >>> ((8 : Int32) &&& 31)).toInt8.toInt32)]) := by
 refine Ctr.of (plainFor_of_name pn_4) (fun m => ef_c_mk_3_1 m c0 c1 c2) ?_
 intro p e s m below meth c T0 hx hby hml hown hnm hret hlk hZ e0 X0
 have N0 := Fr.nil n0
 replace hown : s.vm.findClass "com/example/sayso/sayso/TextCursorAtPinLaw" = some m.cls := hown
 replace hml : c.maxLocals = 4 := hml
 have KP := Keep.refl h0 []
 refine Run.x_iloadN (q := 1) X0 hx (hb hby d17_0) rfl rfl ?_
 refine Run.x_ifYes (q := 15) X0 hx (hb hby d17_1) ((if0 _ _).trans (feq (by decide : ¬ ((3 : Int32) = (0 : Int32)))).2) (by decide) (by decide) ?_
 refine Run.x_iloadN (q := 16) X0 hx (hb hby d17_15) rfl rfl ?_
 refine Run.x_iconst (q := 17) X0 hx (hb hby d17_16) (z := (1 : Int32)) rfl rfl ?_
 refine Run.x_icmpYes (q := 35) X0 hx (hb hby d17_17) (feq (by decide : ¬ ((3 : Int32) = (1 : Int32)))).2 (by decide) (by decide) ?_
 refine Run.x_iloadN (q := 36) X0 hx (hb hby d17_35) rfl rfl ?_
 refine Run.x_iconst (q := 37) X0 hx (hb hby d17_36) (z := (2 : Int32)) rfl rfl ?_
 refine Run.x_icmpYes (q := 59) X0 hx (hb hby d17_37) (feq (by decide : ¬ ((3 : Int32) = (2 : Int32)))).2 (by decide) (by decide) ?_
 obtain ⟨T1, h1, X1, e1, E1, A1, D1, -, st1⟩ := newO X0 hx hZ hown (wm6 hw) (wm7 hw) (wm8 hw) e0 (g := (mkF m 59 #[.val (.int 3), .val (.int c0), .val (.int c1), .val (.int c2)] [])) rfl (hb hby d17_59) (by decide) (by decide)
 obtain ⟨b1, gg1⟩ : ∃ z, z = h0.size := ⟨_, rfl⟩
 rw [← gg1] at A1 D1 st1
 have g_b1 : n0 ≤ b1 := Nat.le_trans Z0 (Nat.le_of_eq gg1.symm)
 have sz_b1 : h0.size ≤ b1 := Nat.le_trans KP.1 (Nat.le_of_eq gg1.symm)
 have Z1 : n0 ≤ h1.size := Nat.le_trans Z0 E1.1
 replace KP := KP.ext E1
 have E_b1 := A1
 have F_b1_coder : Fld Z h1 b1 "java/lang/String" "coder" "B" (.int 0) := D1 (Or.inr (wm32 hw)) (ty := .byte) (by decide)
 have F_b1_value : Fld Z h1 b1 "java/lang/String" "value" "[B" .null := D1 (Or.inr (wm34 hw)) (ty := (.array .byte)) (by decide)
 refine Run.st st1 ?_
 show Run p e below s _ _ _ (T1.setTop (mkF m 62 #[.val (.int 3), .val (.int c0), .val (.int c1), .val (.int c2)] [(.ref b1)]))
 refine Run.x_dup (q := 63) X1 hx (hb hby d17_62) rfl rfl ?_
 refine Run.x_iconst (q := 64) X1 hx (hb hby d17_63) (z := (3 : Int32)) rfl rfl ?_
 refine Run.newP (aty := .char) X1 hx hZ e1 (wm0 hw) (hb hby d17_64) (len := 3) (by decide) (by decide) (cap := 3) (by decide) (by decide) (by decide) (by decide) ?_
 intro T2 h2 b2 gg2 X2 e2 E2 A_b2
 have g_b2 : n0 ≤ b2 := Nat.le_trans Z1 (Nat.le_of_eq gg2.symm)
 have ne_b1_b2 : b1 ≠ b2 := Nat.ne_of_lt (Nat.lt_of_lt_of_le E_b1.lt (Nat.le_of_eq gg2.symm))
 have sz_b2 : h0.size ≤ b2 := Nat.le_trans KP.1 (Nat.le_of_eq gg2.symm)
 have Z2 : n0 ≤ h2.size := Nat.le_trans Z1 E2.1
 replace KP := KP.ext E2
 replace A_b2 : Ars Z h2 b2 .char [(.int 0), (.int 0), (.int 0)] := A_b2
 show Run p e below s _ _ _ (T2.setTop (mkF m 66 #[.val (.int 3), .val (.int c0), .val (.int c1), .val (.int c2)] [(.ref b2), (.ref b1), (.ref b1)]))
 refine Run.x_dup (q := 67) X2 hx (hb hby d17_66) rfl rfl ?_
 refine Run.x_iconst (q := 68) X2 hx (hb hby d17_67) (z := (0 : Int32)) rfl rfl ?_
 refine Run.x_iloadN (q := 69) X2 hx (hb hby d17_68) rfl rfl ?_
 refine Run.y_stC (q := 70) X2 hx hZ e2 A_b2 (i := 0) (by decide) (Nat.le_of_ble_eq_true rfl) (z' := c0) (own_nr hr0) (hb hby d17_69) rfl fun T3 h3 X3 e3 W3 A3 => ?_
 replace A_b2 : Ars Z h3 b2 .char [(.int c0), (.int 0), (.int 0)] := A3
 replace KP := KP.wr W3 (Or.inr sz_b2)
 have N3 := Fr.snoc X3 N0 g_b2
 have Z3 : n0 ≤ h3.size := Nat.le_trans Z2 (Nat.le_of_eq W3.size.symm)
 refine Run.x_dup (q := 71) X3 hx (hb hby d17_70) rfl rfl ?_
 refine Run.x_iconst (q := 72) X3 hx (hb hby d17_71) (z := (1 : Int32)) rfl rfl ?_
 refine Run.x_iloadN (q := 73) X3 hx (hb hby d17_72) rfl rfl ?_
 refine Run.y_stC (q := 74) X3 hx hZ e3 A_b2 (i := 1) (by decide) (Nat.le_of_ble_eq_true rfl) (z' := c1) (own_nr hr1) (hb hby d17_73) rfl fun T4 h4 X4 e4 W4 A4 => ?_
 replace A_b2 : Ars Z h4 b2 .char [(.int c0), (.int c1), (.int 0)] := A4
 replace KP := KP.wr W4 (Or.inr sz_b2)
 have N4 := Fr.snoc X4 N3 g_b2
 have Z4 : n0 ≤ h4.size := Nat.le_trans Z3 (Nat.le_of_eq W4.size.symm)
 refine Run.x_dup (q := 75) X4 hx (hb hby d17_74) rfl rfl ?_
 refine Run.x_iconst (q := 76) X4 hx (hb hby d17_75) (z := (2 : Int32)) rfl rfl ?_
 refine Run.x_iloadN (q := 77) X4 hx (hb hby d17_76) rfl rfl ?_
 refine Run.y_stC (q := 78) X4 hx hZ e4 A_b2 (i := 2) (by decide) (Nat.le_of_ble_eq_true rfl) (z' := c2) (own_nr hr2) (hb hby d17_77) rfl fun T5 h5 X5 e5 W5 A5 => ?_
 replace A_b2 : Ars Z h5 b2 .char [(.int c0), (.int c1), (.int c2)] := A5
 replace KP := KP.wr W5 (Or.inr sz_b2)
 have N5 := Fr.snoc X5 N4 g_b2
 have Z5 : n0 ≤ h5.size := Nat.le_trans Z4 (Nat.le_of_eq W5.size.symm)
 replace E_b1 := (((E_b1.ext E2).wr W3).wr W4).wr W5
 replace F_b1_value := (((F_b1_value.ext E2).other W3 (Or.inl ne_b1_b2)).other W4 (Or.inl ne_b1_b2)).other W5 (Or.inl ne_b1_b2)
 replace F_b1_coder := (((F_b1_coder.ext E2).other W3 (Or.inl ne_b1_b2)).other W4 (Or.inl ne_b1_b2)).other W5 (Or.inl ne_b1_b2)
 replace S_COMPACT_STRINGS := ((((S_COMPACT_STRINGS.ext E1).ext E2).wr W3).wr W4).wr W5
 replace S__assertionsDisabled := ((((S__assertionsDisabled.ext E1).ext E2).wr W3).wr W4).wr W5
 replace S_HI_BYTE_SHIFT := ((((S_HI_BYTE_SHIFT.ext E1).ext E2).wr W3).wr W4).wr W5
 replace S_LO_BYTE_SHIFT := ((((S_LO_BYTE_SHIFT.ext E1).ext E2).wr W3).wr W4).wr W5
 refine Run.callC X5 hx hZ e5 (y := (⟨"java/lang/String", "<init>", "([C)V"⟩ : MethodName)) hown rfl (wm9 hw) (wm10 hw) (wm8 hw) (wm11 hw) (by decide) (a := b1) (argsL := [(.ref b2)]) (rest := [(.ref b1)]) (c_si1_3_1 l Z a0 hw b1 b2 h5 n0 Z5 cp c0 c1 c2 E_b1 F_b1_value F_b1_coder A_b2 S_COMPACT_STRINGS S__assertionsDisabled S_HI_BYTE_SHIFT S_LO_BYTE_SHIFT g_b1 ne_b1_b2 hcp ha hr0 hr1 hr2) pd_12 rfl (by rw [hml]; rfl) (W := 1) rfl (by decide) (by decide) (by decide) (by decide) (hb hby d17_78) rfl ?_
 intro T6 v6 L6 X6 q6
 obtain ⟨bt6, rfl, M6, K6, Es6, Fv6, Fc6, Ab6⟩ := q6
 have N6 := Fr.app N5 M6
 show Run p e below s _ _ _ (T6.setTop (mkF m 81 #[.val (.int 3), .val (.int c0), .val (.int c1), .val (.int c2)] [(.ref b1)]))
 replace S_COMPACT_STRINGS := Sta_keep S_COMPACT_STRINGS K6 (allS (Exa_ns E_b1) all0)
 replace S__assertionsDisabled := Sta_keep S__assertionsDisabled K6 (allS (Exa_ns E_b1) all0)
 replace S_HI_BYTE_SHIFT := Sta_keep S_HI_BYTE_SHIFT K6 (allS (Exa_ns E_b1) all0)
 replace S_LO_BYTE_SHIFT := Sta_keep S_LO_BYTE_SHIFT K6 (allS (Exa_ns E_b1) all0)
 have Z6 : n0 ≤ T6.heap.size := Nat.le_trans Z5 K6.1
 replace KP := KP.trans K6 (allS (Or.inr sz_b1) all0)
 replace A_b2 := A_b2.keep K6 (ninS (Ne.symm ne_b1_b2) nin0)
 refine Run.retA X6 hx hlk rfl (t := (.object "java/lang/String")) hret rfl rfl rfl (hb hby d17_81) (by decide) (by decide) ?_
 exact ⟨b1, bt6, rfl, N6, KP, sz_b1, Es6, Fv6, Fc6, Ab6⟩
theorem wm104 {a0 : Array Value} {Z : State} (hw : ∀ d ∈ tables_1, d.before a0 Z = true) : (Jvm.Cond.stringLink "java/lang/String" (7 : Nat) "").before a0 Z = true := hw _ (List.mem_of_getElem? (i := 104) rfl)
theorem wm105 {a0 : Array Value} {Z : State} (hw : ∀ d ∈ tables_1, d.before a0 Z = true) : (Jvm.Cond.soleField "java/lang/String" "value").before a0 Z = true := hw _ (List.mem_of_getElem? (i := 105) rfl)
theorem wm106 {a0 : Array Value} {Z : State} (hw : ∀ d ∈ tables_1, d.before a0 Z = true) : (Jvm.Cond.soleField "java/lang/String" "coder").before a0 Z = true := hw _ (List.mem_of_getElem? (i := 106) rfl)
theorem own_wS {a0 : Array Value} {Z : State} (hw : ∀ d ∈ tables_1, d.before a0 Z = true) : ∀ a ∈ Bundle.stringAtoms, a.before a0 Z = true := fun a ha => by
 simp only [Bundle.stringAtoms, Bundle.sN, List.mem_cons, List.not_mem_nil, or_false] at ha
 rcases ha with rfl | rfl | rfl | rfl | rfl | rfl | rfl
 ·exact (wm8 hw)
 ·exact (wm7 hw)
 ·exact (wm24 hw)
 ·exact (wm34 hw)
 ·exact (wm32 hw)
 ·exact (wm105 hw)
 ·exact (wm106 hw)
theorem ef_c_si4_0 (m : MethodId) (this : Addr) (pat : Addr) : entryFrame m #[(.ref this), (.ref pat), (.int 0), (.int 0), .null] 6 = mkF m 0 #[.val (.ref this), .val (.ref pat), .val (.int 0), .val (.int 0), .val .null, .unset] [] := by first | (simp [entryFrame, mkF, argsToLocals, Value.category]; done) | rfl
set_option maxRecDepth 65536 in
set_option maxHeartbeats 40000000 in
theorem c_si4_0 (l : Launch) (Z : State) (a0 : Array Value) (hw : ∀ d ∈ tables_1, d.before a0 Z = true) (this : Addr) (pat : Addr) (h0 : Heap) (n0 : Nat) (Z0 : n0 ≤ h0.size) (E_this : Exa Z h0 this "java/lang/String") (F_this_value : Fld Z h0 this "java/lang/String" "value" "[B" .null) (F_this_coder : Fld Z h0 this "java/lang/String" "coder" "B" (.int 0)) (g_this : n0 ≤ this) (hkeep : ∀ (b : Addr) (cl : Cell), Z.heap[b]? = some cl → h0[b]? = some cl) (hh : Jvm.Lit.constHeld Z "java/lang/String" 7) (hcw : Jvm.Lit.compactW.before a0 Z = true) :
  CtrW l Z (⟨"java/lang/String", "<init>", "([CIILjava/lang/Void;)V"⟩ : MethodName) jdk_42_method_149_code 6 none ({ frames := 1, cells := 2, slots := 4, locals := 12 } : Room) #[(.ref this), (.ref pat), (.int 0), (.int 0), .null] h0 (fun v h L => ∃ b : Addr, v = none ∧ Fr n0 L ∧ Keep h0 h [this] ∧ Exa Z h this "java/lang/String" ∧ Fld Z h this "java/lang/String" "value" "[B" (.ref b) ∧ Fld Z h this "java/lang/String" "coder" "B" (.int 0) ∧ Ars Z h b .byte []) := by
 refine CtrW.of (plainFor_of_name pn_1) (fun m => ef_c_si4_0 m this pat) ?_
 intro p e s m below meth c T0 hx hby hml hown hnm hret hlk hZ e0 X0 hI es0
 have N0 := Fr.nil n0
 replace hown : s.vm.findClass "java/lang/String" = some m.cls := hown
 replace hml : c.maxLocals = 6 := hml
 have KP := Keep.refl h0 [this]
 refine Run.x_aloadN (q := 1) X0 hx (hb hby d15_0) rfl rfl rfl ?_
 refine Run.init X0 hx hZ e0 hown (wm16 hw) (wm17 hw) (wm18 hw) (by rw [hml]; rfl) (hb hby d15_1) (by decide) (W := 0) rfl (by decide) ?_
 intro T1 X1 e1
 show Run p e below s _ _ _ (T1.setTop (mkF m 4 #[.val (.ref this), .val (.ref pat), .val (.int 0), .val (.int 0), .val .null, .unset] []))
 refine Run.x_iloadN (q := 5) X1 hx (hb hby d15_4) rfl rfl ?_
 refine Run.x_ifNo (q := 8) X1 hx (hb hby d15_5) ((if0 _ _).trans (teq (by decide : (0 : Int32) = (0 : Int32))).2) rfl ?_
 refine Run.x_aloadN (q := 9) X1 hx (hb hby d15_8) rfl rfl rfl ?_
 refine Run.ldcE X1 hx hZ hI e1 hown (wm104 hw) (own_wS hw) es0 hkeep hh hcw (hb hby d15_9) (by decide) (by decide) ?_
 intro T2 h2 la lb X2 e2 E2 hZ hown E_la F_la_coder F_la_value A_lb NE LL
 have Z2 : n0 ≤ h2.size := Nat.le_trans Z0 E2.1
 replace KP := KP.ext E2
 replace E_this := E_this.ext E2
 have ne_this_lb : this ≠ lb := NE this _ _ E_this (wm7 hw)
 show Run p e below (s.setVm T2.vm) _ _ _ (T2.setTop (mkF m 11 #[.val (.ref this), .val (.ref pat), .val (.int 0), .val (.int 0), .val .null, .unset] [(.ref la), (.ref this)]))
 refine Run.z_getF (q := 14) X2 hx hZ e2 hown (wm33 hw) F_la_value (hb hby d15_11) rfl fun T3 X3 e3 => ?_
 replace F_this_value := F_this_value.ext E2
 obtain ⟨T4, h4, X4, e4, W4, st4⟩ := putF X3 hx hZ hown (host := "") (Or.inl (wm33 hw)) Via.refl e3 F_this_value E_this (Or.inr ⟨(wm34 hw), rfl, hnm⟩) (wm7 hw) (ty := (.array .byte)) (by decide) rfl rfl (g := (mkF m 14 #[.val (.ref this), .val (.ref pat), .val (.int 0), .val (.int 0), .val .null, .unset] [(.ref lb), (.ref this)])) rfl rfl (hb hby d15_14)
 replace F_this_value := F_this_value.same W4
 have Z4 : n0 ≤ h4.size := Nat.le_trans Z2 (Nat.le_of_eq W4.size.symm)
 have Y4 : h2.size ≤ h4.size := Nat.le_trans (Nat.le_refl _) (Nat.le_of_eq W4.size.symm)
 replace KP := KP.wr W4 (Or.inl (by simp))
 have N4 := Fr.snoc X4 N0 g_this
 refine Run.st st4 ?_
 show Run p e below (s.setVm T2.vm) _ _ _ (T4.setTop (mkF m 17 #[.val (.ref this), .val (.ref pat), .val (.int 0), .val (.int 0), .val .null, .unset] []))
 refine Run.x_aloadN (q := 18) X4 hx (hb hby d15_17) rfl rfl rfl ?_
 refine Run.ldcA X4 hx hZ hown (wm104 hw) LL (hb hby d15_18) ?_
 show Run p e below (s.setVm T2.vm) _ _ _ (T4.setTop (mkF m 20 #[.val (.ref this), .val (.ref pat), .val (.int 0), .val (.int 0), .val .null, .unset] [(.ref la), (.ref this)]))
 replace F_la_coder := F_la_coder.other W4 (Or.inr (slot_ne (Or.inr (wm32 hw)) (Or.inr (wm34 hw)) (by decide) (t := .byte) (t' := (.array .byte)) (by decide) (by decide)))
 refine Run.z_getF (q := 23) X4 hx hZ e4 hown (wm31 hw) F_la_coder (hb hby d15_20) rfl fun T5 X5 e5 => ?_
 replace F_this_coder := (F_this_coder.ext E2).other W4 (Or.inr (slot_ne (Or.inr (wm32 hw)) (Or.inr (wm34 hw)) (by decide) (t := .byte) (t' := (.array .byte)) (by decide) (by decide)))
 replace E_this := E_this.wr W4
 obtain ⟨T6, h6, X6, e6, W6, st6⟩ := putFN X5 hx hZ hown (wm31 hw) Via.refl e5 F_this_coder E_this (Or.inr ⟨(wm32 hw), rfl, hnm⟩) (wm7 hw) (ty := .byte) (v' := (.int 0)) (by decide) rfl (by decide) (g := (mkF m 23 #[.val (.ref this), .val (.ref pat), .val (.int 0), .val (.int 0), .val .null, .unset] [(.int 0), (.ref this)])) rfl rfl (hb hby d15_23)
 replace F_this_coder := F_this_coder.same W6
 have Z6 : n0 ≤ h6.size := Nat.le_trans Z4 (Nat.le_of_eq W6.size.symm)
 have Y6 : h2.size ≤ h6.size := Nat.le_trans Y4 (Nat.le_of_eq W6.size.symm)
 replace KP := KP.wr W6 (Or.inl (by simp))
 have N6 := Fr.snoc X6 N4 g_this
 refine Run.st st6 ?_
 show Run p e below (s.setVm T2.vm) _ _ _ (T6.setTop (mkF m 26 #[.val (.ref this), .val (.ref pat), .val (.int 0), .val (.int 0), .val .null, .unset] []))
 replace E_this := E_this.wr W6
 replace F_this_value := F_this_value.other W6 (Or.inr (slot_ne (Or.inr (wm34 hw)) (Or.inr (wm32 hw)) (by decide) (t := (.array .byte)) (t' := .byte) (by decide) (by decide)))
 replace E_la := (E_la.wr W4).wr W6
 replace A_lb := (A_lb.other W4 (Ne.symm ne_this_lb)).other W6 (Ne.symm ne_this_lb)
 refine Run.retV X6 hx hlk e6 hret (hb hby d15_26) (by decide) (by decide) ?_
 exact ⟨⟨lb, rfl, N6, KP, E_this, F_this_value, F_this_coder, A_lb⟩, Y6⟩
theorem ef_c_si1_0 (m : MethodId) (this : Addr) (pat : Addr) : entryFrame m #[(.ref this), (.ref pat)] 2 = mkF m 0 #[.val (.ref this), .val (.ref pat)] [] := by first | (simp [entryFrame, mkF, argsToLocals, Value.category]; done) | rfl
set_option maxRecDepth 65536 in
set_option maxHeartbeats 40000000 in
theorem c_si1_0 (l : Launch) (Z : State) (a0 : Array Value) (hw : ∀ d ∈ tables_1, d.before a0 Z = true) (this : Addr) (pat : Addr) (h0 : Heap) (n0 : Nat) (Z0 : n0 ≤ h0.size) (E_this : Exa Z h0 this "java/lang/String") (F_this_value : Fld Z h0 this "java/lang/String" "value" "[B" .null) (F_this_coder : Fld Z h0 this "java/lang/String" "coder" "B" (.int 0)) (A_pat : Ars Z h0 pat .char []) (g_this : n0 ≤ this) (ne_this_pat : this ≠ pat) (hkeep : ∀ (b : Addr) (cl : Cell), Z.heap[b]? = some cl → h0[b]? = some cl) (hh : Jvm.Lit.constHeld Z "java/lang/String" 7) (hcw : Jvm.Lit.compactW.before a0 Z = true) :
  CtrW l Z (⟨"java/lang/String", "<init>", "([C)V"⟩ : MethodName) jdk_42_method_3_code 2 none ({ frames := 2, cells := 2, slots := 4, locals := 29 } : Room) #[(.ref this), (.ref pat)] h0 (fun v h L => ∃ b : Addr, v = none ∧ Fr n0 L ∧ Keep h0 h [this] ∧ Exa Z h this "java/lang/String" ∧ Fld Z h this "java/lang/String" "value" "[B" (.ref b) ∧ Fld Z h this "java/lang/String" "coder" "B" (.int 0) ∧ Ars Z h b .byte []) := by
 refine CtrW.of (plainFor_of_name pn_1) (fun m => ef_c_si1_0 m this pat) ?_
 intro p e s m below meth c T0 hx hby hml hown hnm hret hlk hZ e0 X0 hI es0
 have N0 := Fr.nil n0
 replace hown : s.vm.findClass "java/lang/String" = some m.cls := hown
 replace hml : c.maxLocals = 2 := hml
 have KP := Keep.refl h0 [this]
 refine Run.x_aloadN (q := 1) X0 hx (hb hby d16_0) rfl rfl rfl ?_
 refine Run.x_aloadN (q := 2) X0 hx (hb hby d16_1) rfl rfl rfl ?_
 refine Run.x_iconst (q := 3) X0 hx (hb hby d16_2) (z := (0 : Int32)) rfl rfl ?_
 refine Run.x_aloadN (q := 4) X0 hx (hb hby d16_3) rfl rfl rfl ?_
 refine Run.y_alen (q := 5) X0 hx hZ e0 A_pat (z := (0 : Int32)) (by decide) (hb hby d16_4) rfl ?_
 refine Run.x_null (q := 6) X0 hx (hb hby d16_5)  rfl ?_
 refine Run.callCW X0 hx hZ hI e0 (y := (⟨"java/lang/String", "<init>", "([CIILjava/lang/Void;)V"⟩ : MethodName)) hown rfl (wm12 hw) (wm13 hw) (wm8 hw) (wm15 hw) (by decide) (a := this) (argsL := [(.ref pat), (.int 0), (.int 0), .null]) (rest := []) (c_si4_0 l Z a0 hw this pat h0 n0 Z0 E_this F_this_value F_this_coder g_this hkeep hh hcw) pd_11 rfl (by rw [hml]; rfl) (W := 0) rfl (by decide) (by decide) (by decide) (by decide) (hb hby d16_6) rfl ?_
 intro T1 v1 L1 X1 hZ hown q1
 obtain ⟨bt1, rfl, M1, K1, Es1, Fv1, Fc1, Ab1⟩ := q1
 have N1 := Fr.app N0 M1
 show Run p e below (s.setVm T1.vm) _ _ _ (T1.setTop (mkF m 9 #[.val (.ref this), .val (.ref pat)] []))
 have Z1 : n0 ≤ T1.heap.size := Nat.le_trans Z0 K1.1
 replace KP := KP.trans K1 (allS (Or.inl (by simp)) all0)
 replace A_pat := A_pat.keep K1 (ninS (Ne.symm ne_this_pat) nin0)
 refine Run.retV X1 hx hlk rfl hret (hb hby d16_9) (by decide) (by decide) ?_
 exact ⟨⟨bt1, rfl, N1, KP, Es1, Fv1, Fc1, Ab1⟩, (Nat.le_refl _)⟩
theorem ef_c_mk_0 (m : MethodId) (c0 : Int32) (c1 : Int32) (c2 : Int32) : entryFrame m #[(.int 0), (.int c0), (.int c1), (.int c2)] 4 = mkF m 0 #[.val (.int 0), .val (.int c0), .val (.int c1), .val (.int c2)] [] := by first | (simp [entryFrame, mkF, argsToLocals, Value.category]; done) | rfl
set_option maxRecDepth 65536 in
set_option maxHeartbeats 40000000 in
theorem c_mk_0 (l : Launch) (Z : State) (a0 : Array Value) (hw : ∀ d ∈ tables_1, d.before a0 Z = true) (c0 : Int32) (c1 : Int32) (c2 : Int32) (h0 : Heap) (n0 : Nat) (Z0 : n0 ≤ h0.size) (hkeep : ∀ (b : Addr) (cl : Cell), Z.heap[b]? = some cl → h0[b]? = some cl) (hh : Jvm.Lit.constHeld Z "java/lang/String" 7) (hcw : Jvm.Lit.compactW.before a0 Z = true) :
  CtrW l Z (⟨"com/example/sayso/sayso/TextCursorAtPinLaw", "make", "(ICCC)Ljava/lang/String;"⟩ : MethodName) method_2_code 4 (some (.object "java/lang/String")) ({ frames := 3, cells := 4, slots := 8, locals := 43 } : Room) #[(.int 0), (.int c0), (.int c1), (.int c2)] h0 (fun v h L => ∃ b bts : Addr, v = some (.ref b) ∧ Fr n0 L ∧ Keep h0 h [] ∧ h0.size ≤ b ∧ Exa Z h b "java/lang/String" ∧ Fld Z h b "java/lang/String" "value" "[B" (.ref bts) ∧ Fld Z h b "java/lang/String" "coder" "B" (.int 0) ∧ Ars Z h bts .byte []) := by
 refine CtrW.of (plainFor_of_name pn_4) (fun m => ef_c_mk_0 m c0 c1 c2) ?_
 intro p e s m below meth c T0 hx hby hml hown hnm hret hlk hZ e0 X0 hI es0
 have N0 := Fr.nil n0
 replace hown : s.vm.findClass "com/example/sayso/sayso/TextCursorAtPinLaw" = some m.cls := hown
 replace hml : c.maxLocals = 4 := hml
 have KP := Keep.refl h0 []
 refine Run.x_iloadN (q := 1) X0 hx (hb hby d17_0) rfl rfl ?_
 refine Run.x_ifNo (q := 4) X0 hx (hb hby d17_1) ((if0 _ _).trans (teq (by decide : (0 : Int32) = (0 : Int32))).2) rfl ?_
 obtain ⟨T1, h1, X1, e1, E1, A1, D1, -, st1⟩ := newO X0 hx hZ hown (wm6 hw) (wm7 hw) (wm8 hw) e0 (g := (mkF m 4 #[.val (.int 0), .val (.int c0), .val (.int c1), .val (.int c2)] [])) rfl (hb hby d17_4) (by decide) (by decide)
 obtain ⟨b1, gg1⟩ : ∃ z, z = h0.size := ⟨_, rfl⟩
 rw [← gg1] at A1 D1 st1
 have g_b1 : n0 ≤ b1 := Nat.le_trans Z0 (Nat.le_of_eq gg1.symm)
 have sz_b1 : h0.size ≤ b1 := Nat.le_trans KP.1 (Nat.le_of_eq gg1.symm)
 have Z1 : n0 ≤ h1.size := Nat.le_trans Z0 E1.1
 replace KP := KP.ext E1
 have E_b1 := A1
 have F_b1_coder : Fld Z h1 b1 "java/lang/String" "coder" "B" (.int 0) := D1 (Or.inr (wm32 hw)) (ty := .byte) (by decide)
 have F_b1_value : Fld Z h1 b1 "java/lang/String" "value" "[B" .null := D1 (Or.inr (wm34 hw)) (ty := (.array .byte)) (by decide)
 refine Run.st st1 ?_
 show Run p e below s _ _ _ (T1.setTop (mkF m 7 #[.val (.int 0), .val (.int c0), .val (.int c1), .val (.int c2)] [(.ref b1)]))
 refine Run.x_dup (q := 8) X1 hx (hb hby d17_7) rfl rfl ?_
 refine Run.x_iconst (q := 9) X1 hx (hb hby d17_8) (z := (0 : Int32)) rfl rfl ?_
 refine Run.newP (aty := .char) X1 hx hZ e1 (wm0 hw) (hb hby d17_9) (len := 0) (by decide) (by decide) (cap := 0) (by decide) (by decide) (by decide) (by decide) ?_
 intro T2 h2 b2 gg2 X2 e2 E2 A_b2
 have g_b2 : n0 ≤ b2 := Nat.le_trans Z1 (Nat.le_of_eq gg2.symm)
 have ne_b1_b2 : b1 ≠ b2 := Nat.ne_of_lt (Nat.lt_of_lt_of_le E_b1.lt (Nat.le_of_eq gg2.symm))
 have sz_b2 : h0.size ≤ b2 := Nat.le_trans KP.1 (Nat.le_of_eq gg2.symm)
 have Z2 : n0 ≤ h2.size := Nat.le_trans Z1 E2.1
 replace KP := KP.ext E2
 replace A_b2 : Ars Z h2 b2 .char [] := A_b2
 show Run p e below s _ _ _ (T2.setTop (mkF m 11 #[.val (.int 0), .val (.int c0), .val (.int c1), .val (.int c2)] [(.ref b2), (.ref b1), (.ref b1)]))
 replace E_b1 := E_b1.ext E2
 replace F_b1_value := F_b1_value.ext E2
 replace F_b1_coder := F_b1_coder.ext E2
 refine Run.callCW X2 hx hZ hI e2 (y := (⟨"java/lang/String", "<init>", "([C)V"⟩ : MethodName)) hown rfl (wm9 hw) (wm10 hw) (wm8 hw) (wm11 hw) (by decide) (a := b1) (argsL := [(.ref b2)]) (rest := [(.ref b1)]) (c_si1_0 l Z a0 hw b1 b2 h2 n0 Z2 E_b1 F_b1_value F_b1_coder A_b2 g_b1 ne_b1_b2 (fun b cl q => KP.2.1 b cl (hkeep b cl q) nin0) hh hcw) pd_12 rfl (by rw [hml]; rfl) (W := 1) rfl (by decide) (by decide) (by decide) (by decide) (hb hby d17_11) rfl ?_
 intro T3 v3 L3 X3 hZ hown q3
 obtain ⟨bt3, rfl, M3, K3, Es3, Fv3, Fc3, Ab3⟩ := q3
 have N3 := Fr.app N0 M3
 show Run p e below (s.setVm T3.vm) _ _ _ (T3.setTop (mkF m 14 #[.val (.int 0), .val (.int c0), .val (.int c1), .val (.int c2)] [(.ref b1)]))
 have Z3 : n0 ≤ T3.heap.size := Nat.le_trans Z2 K3.1
 replace KP := KP.trans K3 (allS (Or.inr sz_b1) all0)
 replace A_b2 := A_b2.keep K3 (ninS (Ne.symm ne_b1_b2) nin0)
 refine Run.retA X3 hx hlk rfl (t := (.object "java/lang/String")) hret rfl rfl rfl (hb hby d17_14) (by decide) (by decide) ?_
 exact ⟨⟨b1, bt3, rfl, N3, KP, sz_b1, Es3, Fv3, Fc3, Ab3⟩, (Nat.le_refl _)⟩
theorem d18_0 : decode jdk_42_method_152_code 0 = .ok (.getstatic 38, 3) := by decide +kernel
theorem d18_3 : decode jdk_42_method_152_code 3 = .ok (.ifCond .eq 10, 3) := by decide +kernel
theorem d18_6 : decode jdk_42_method_152_code 6 = .ok (.aload_n 0, 1) := by decide +kernel
theorem d18_7 : decode jdk_42_method_152_code 7 = .ok (.getfield 15, 3) := by decide +kernel
theorem d18_10 : decode jdk_42_method_152_code 10 = .ok (.goto 4, 3) := by decide +kernel
theorem d18_13 : decode jdk_42_method_152_code 13 = .ok (.iconst 1, 1) := by decide +kernel
theorem d18_14 : decode jdk_42_method_152_code 14 = .ok (.ireturn, 1) := by decide +kernel
theorem ef_c_cod0 (m : MethodId) (this : Addr) : entryFrame m #[(.ref this)] 1 = mkF m 0 #[.val (.ref this)] [] := by first | (simp [entryFrame, mkF, argsToLocals, Value.category]; done) | rfl
set_option maxRecDepth 65536 in
set_option maxHeartbeats 40000000 in
theorem c_cod0 (l : Launch) (Z : State) (a0 : Array Value) (hw : ∀ d ∈ tables_1, d.before a0 Z = true) (this : Addr) (h0 : Heap) (n0 : Nat) (Z0 : n0 ≤ h0.size) (cp : Int32) (E_this : Exa Z h0 this "java/lang/String") (F_this_coder : Fld Z h0 this "java/lang/String" "coder" "B" (.int 0)) (S_COMPACT_STRINGS : Sta Z h0 "java/lang/String" "COMPACT_STRINGS" "Z" (.int cp)) (hcp : ¬ cp = (0 : Int32)) :
  Ctr l Z (⟨"java/lang/String", "coder", "()B"⟩ : MethodName) jdk_42_method_152_code 1 (some .byte) ({ frames := 0, cells := 0, slots := 0, locals := 0 } : Room) #[(.ref this)] h0 (PureI h0 n0 (0 : Int32)) := by
 refine Ctr.of (plainFor_of_name pn_1) (fun m => ef_c_cod0 m this) ?_
 intro p e s m below meth c T0 hx hby hml hown hnm hret hlk hZ e0 X0
 have N0 := Fr.nil n0
 replace hown : s.vm.findClass "java/lang/String" = some m.cls := hown
 replace hml : c.maxLocals = 1 := hml
 obtain ⟨T1, X1, e1, st1⟩ := getS2 X0 hx hZ hown (host := "") (Or.inl (wm19 hw)) Via.refl e0 S_COMPACT_STRINGS (g := (mkF m 0 #[.val (.ref this)] [])) rfl (hb hby d18_0)
 refine Run.st st1 ?_
 show Run p e below s _ _ _ (T1.setTop (mkF m 3 #[.val (.ref this)] [(.int cp)]))
 refine Run.x_ifNo (q := 6) X1 hx (hb hby d18_3) ((if0 _ _).trans (feq hcp).1) rfl ?_
 refine Run.x_aloadN (q := 7) X1 hx (hb hby d18_6) rfl rfl rfl ?_
 refine Run.z_getF (q := 10) X1 hx hZ e1 hown (wm31 hw) F_this_coder (hb hby d18_7) rfl fun T2 X2 e2 => ?_
 refine Run.x_goto (q := 14) X2 hx (hb hby d18_10) (by decide) (by decide) ?_
 refine Run.retN X2 hx hlk e2 (t := .byte) hret (by simp) (z' := (0 : Int32)) (by decide) (hb hby d18_14) (by decide) (by decide) ?_
 exact PureI.mk (by rfl) N0
theorem d19_0 : decode jdk_42_method_154_code 0 = .ok (.getstatic 38, 3) := by decide +kernel
theorem d19_3 : decode jdk_42_method_154_code 3 = .ok (.ifCond .eq 14, 3) := by decide +kernel
theorem d19_6 : decode jdk_42_method_154_code 6 = .ok (.aload_n 0, 1) := by decide +kernel
theorem d19_7 : decode jdk_42_method_154_code 7 = .ok (.getfield 15, 3) := by decide +kernel
theorem d19_10 : decode jdk_42_method_154_code 10 = .ok (.ifCond .ne 7, 3) := by decide +kernel
theorem d19_13 : decode jdk_42_method_154_code 13 = .ok (.iconst 1, 1) := by decide +kernel
theorem d19_14 : decode jdk_42_method_154_code 14 = .ok (.goto 4, 3) := by decide +kernel
theorem d19_17 : decode jdk_42_method_154_code 17 = .ok (.iconst 0, 1) := by decide +kernel
theorem d19_18 : decode jdk_42_method_154_code 18 = .ok (.ireturn, 1) := by decide +kernel
theorem ef_c_il1_0 (m : MethodId) (this : Addr) : entryFrame m #[(.ref this)] 1 = mkF m 0 #[.val (.ref this)] [] := by first | (simp [entryFrame, mkF, argsToLocals, Value.category]; done) | rfl
set_option maxRecDepth 65536 in
set_option maxHeartbeats 40000000 in
theorem c_il1_0 (l : Launch) (Z : State) (a0 : Array Value) (hw : ∀ d ∈ tables_1, d.before a0 Z = true) (this : Addr) (h0 : Heap) (n0 : Nat) (Z0 : n0 ≤ h0.size) (cp : Int32) (E_this : Exa Z h0 this "java/lang/String") (F_this_coder : Fld Z h0 this "java/lang/String" "coder" "B" (.int 0)) (S_COMPACT_STRINGS : Sta Z h0 "java/lang/String" "COMPACT_STRINGS" "Z" (.int cp)) (hcp : ¬ cp = (0 : Int32)) :
  Ctr l Z (⟨"java/lang/String", "isLatin1", "()Z"⟩ : MethodName) jdk_42_method_154_code 1 (some .boolean) ({ frames := 0, cells := 0, slots := 0, locals := 0 } : Room) #[(.ref this)] h0 (PureI h0 n0 (1 : Int32)) := by
 refine Ctr.of (plainFor_of_name pn_1) (fun m => ef_c_il1_0 m this) ?_
 intro p e s m below meth c T0 hx hby hml hown hnm hret hlk hZ e0 X0
 have N0 := Fr.nil n0
 replace hown : s.vm.findClass "java/lang/String" = some m.cls := hown
 replace hml : c.maxLocals = 1 := hml
 obtain ⟨T1, X1, e1, st1⟩ := getS2 X0 hx hZ hown (host := "") (Or.inl (wm19 hw)) Via.refl e0 S_COMPACT_STRINGS (g := (mkF m 0 #[.val (.ref this)] [])) rfl (hb hby d19_0)
 refine Run.st st1 ?_
 show Run p e below s _ _ _ (T1.setTop (mkF m 3 #[.val (.ref this)] [(.int cp)]))
 refine Run.x_ifNo (q := 6) X1 hx (hb hby d19_3) ((if0 _ _).trans (feq hcp).1) rfl ?_
 refine Run.x_aloadN (q := 7) X1 hx (hb hby d19_6) rfl rfl rfl ?_
 refine Run.z_getF (q := 10) X1 hx hZ e1 hown (wm31 hw) F_this_coder (hb hby d19_7) rfl fun T2 X2 e2 => ?_
 refine Run.x_ifNo (q := 13) X2 hx (hb hby d19_10) ((if0 _ _).trans (teq (by decide : (0 : Int32) = (0 : Int32))).2) rfl ?_
 refine Run.x_iconst (q := 14) X2 hx (hb hby d19_13) (z := (1 : Int32)) rfl rfl ?_
 refine Run.x_goto (q := 18) X2 hx (hb hby d19_14) (by decide) (by decide) ?_
 refine Run.retN X2 hx hlk e2 (t := .boolean) hret (by simp) (z' := (1 : Int32)) (by decide) (hb hby d19_18) (by decide) (by decide) ?_
 exact PureI.mk (by rfl) N0
theorem d20_0 : decode jdk_42_method_54_code 0 = .ok (.aload_n 0, 1) := by decide +kernel
theorem d20_1 : decode jdk_42_method_54_code 1 = .ok (.getfield 9, 3) := by decide +kernel
theorem d20_4 : decode jdk_42_method_54_code 4 = .ok (.arraylength, 1) := by decide +kernel
theorem d20_5 : decode jdk_42_method_54_code 5 = .ok (.aload_n 0, 1) := by decide +kernel
theorem d20_6 : decode jdk_42_method_54_code 6 = .ok (.invokevirtual 335, 3) := by decide +kernel
theorem d20_9 : decode jdk_42_method_54_code 9 = .ok (.ishr, 1) := by decide +kernel
theorem d20_10 : decode jdk_42_method_54_code 10 = .ok (.ireturn, 1) := by decide +kernel
theorem ef_c_len0 (m : MethodId) (this : Addr) : entryFrame m #[(.ref this)] 1 = mkF m 0 #[.val (.ref this)] [] := by first | (simp [entryFrame, mkF, argsToLocals, Value.category]; done) | rfl
theorem wm57 {a0 : Array Value} {Z : State} (hw : ∀ d ∈ tables_1, d.before a0 Z = true) : (Jvm.Cond.methodLink "java/lang/String" (335 : Nat) ({ cls := "java/lang/String", name := "coder", desc := "()B" } : Jvm.MethodName)).before a0 Z = true := hw _ (List.mem_of_getElem? (i := 57) rfl)
theorem wm61 {a0 : Array Value} {Z : State} (hw : ∀ d ∈ tables_1, d.before a0 Z = true) : (Jvm.Cond.code ({ cls := "java/lang/String", name := "coder", desc := "()B" } : Jvm.MethodName) jdk_42_method_152_code (1 : Nat) (Option.some Jvm.ClassFile.FieldType.byte)).before a0 Z = true := hw _ (List.mem_of_getElem? (i := 61) rfl)
theorem pd_13 : parseMethodDescriptor "()B" = some ⟨[], some .byte⟩ := by decide +kernel
theorem wm60 {a0 : Array Value} {Z : State} (hw : ∀ d ∈ tables_1, d.before a0 Z = true) : (Jvm.Cond.selects "java/lang/String" ({ cls := "java/lang/String", name := "coder", desc := "()B" } : Jvm.MethodName) ({ cls := "java/lang/String", name := "coder", desc := "()B" } : Jvm.MethodName)).before a0 Z = true := hw _ (List.mem_of_getElem? (i := 60) rfl)
theorem wm58 {a0 : Array Value} {Z : State} (hw : ∀ d ∈ tables_1, d.before a0 Z = true) : (Jvm.Cond.declares ({ cls := "java/lang/String", name := "coder", desc := "()B" } : Jvm.MethodName)).before a0 Z = true := hw _ (List.mem_of_getElem? (i := 58) rfl)
theorem wm59 {a0 : Array Value} {Z : State} (hw : ∀ d ∈ tables_1, d.before a0 Z = true) : (Jvm.Cond.instanceMethod ({ cls := "java/lang/String", name := "coder", desc := "()B" } : Jvm.MethodName)).before a0 Z = true := hw _ (List.mem_of_getElem? (i := 59) rfl)
set_option maxRecDepth 65536 in
set_option maxHeartbeats 40000000 in
theorem c_len0 (l : Launch) (Z : State) (a0 : Array Value) (hw : ∀ d ∈ tables_1, d.before a0 Z = true) (this : Addr) (h0 : Heap) (n0 : Nat) (Z0 : n0 ≤ h0.size) (cp : Int32) (bts : Addr) (z : Int32) (vs : List Value) (ln : Int32) (E_this : Exa Z h0 this "java/lang/String") (F_this_coder : Fld Z h0 this "java/lang/String" "coder" "B" (.int 0)) (F_this_value : Fld Z h0 this "java/lang/String" "value" "[B" (.ref bts)) (A_bts : Ars Z h0 bts .byte vs) (S_COMPACT_STRINGS : Sta Z h0 "java/lang/String" "COMPACT_STRINGS" "Z" (.int cp)) (hcp : ¬ cp = (0 : Int32)) (hln : vs.length.toInt32 = ln) (hz : ln >>> ((0 : Int32) &&& 31) = z) :
  Ctr l Z (⟨"java/lang/String", "length", "()I"⟩ : MethodName) jdk_42_method_54_code 1 (some .int) ({ frames := 1, cells := 0, slots := 0, locals := 13 } : Room) #[(.ref this)] h0 (PureI h0 n0 z) := by
 refine Ctr.of (plainFor_of_name pn_1) (fun m => ef_c_len0 m this) ?_
 intro p e s m below meth c T0 hx hby hml hown hnm hret hlk hZ e0 X0
 have N0 := Fr.nil n0
 replace hown : s.vm.findClass "java/lang/String" = some m.cls := hown
 replace hml : c.maxLocals = 1 := hml
 refine Run.x_aloadN (q := 1) X0 hx (hb hby d20_0) rfl rfl rfl ?_
 refine Run.z_getF (q := 4) X0 hx hZ e0 hown (wm33 hw) F_this_value (hb hby d20_1) rfl fun T1 X1 e1 => ?_
 refine Run.y_alen (q := 5) X1 hx hZ e1 A_bts (z := ln) hln (hb hby d20_4) rfl ?_
 refine Run.x_aloadN (q := 6) X1 hx (hb hby d20_5) rfl rfl rfl ?_
 refine Run.callVI (q := 9) X1 hx hZ e1 (y := (⟨"java/lang/String", "coder", "()B"⟩ : MethodName)) (z := (⟨"java/lang/String", "coder", "()B"⟩ : MethodName)) hown (wm57 hw) (wm58 hw) (notFace_of_selects (args := #[]) (mvT hZ (wm60 hw))) (wm60 hw) (wm59 hw) (wm8 hw) (wm61 hw) (by decide) (a := this) E_this (argsL := []) (rest := [(.int ln)]) (c_cod0 l Z a0 hw this h0 n0 Z0 cp E_this F_this_coder S_COMPACT_STRINGS hcp) pd_13 rfl (by rw [hml]; rfl) (W := 1) rfl (by decide) (by decide) (by decide) (by decide) (hb hby d20_6) rfl rfl fun T2 L2 X2 M2 e2 => ?_
 have N2 := Fr.app N0 M2
 refine Run.x_ishr (q := 10) X2 hx (hb hby d20_9) rfl rfl ?_
 refine Run.retI X2 hx hlk e2 hret (hb hby d20_10) (by decide) (by decide) ?_
 exact PureI.mk (by exact hz) N2
theorem ef_c_cod1 (m : MethodId) (this : Addr) : entryFrame m #[(.ref this)] 1 = mkF m 0 #[.val (.ref this)] [] := by first | (simp [entryFrame, mkF, argsToLocals, Value.category]; done) | rfl
set_option maxRecDepth 65536 in
set_option maxHeartbeats 40000000 in
theorem c_cod1 (l : Launch) (Z : State) (a0 : Array Value) (hw : ∀ d ∈ tables_1, d.before a0 Z = true) (this : Addr) (h0 : Heap) (n0 : Nat) (Z0 : n0 ≤ h0.size) (cp : Int32) (E_this : Exa Z h0 this "java/lang/String") (F_this_coder : Fld Z h0 this "java/lang/String" "coder" "B" (.int 1)) (S_COMPACT_STRINGS : Sta Z h0 "java/lang/String" "COMPACT_STRINGS" "Z" (.int cp)) (hcp : ¬ cp = (0 : Int32)) :
  Ctr l Z (⟨"java/lang/String", "coder", "()B"⟩ : MethodName) jdk_42_method_152_code 1 (some .byte) ({ frames := 0, cells := 0, slots := 0, locals := 0 } : Room) #[(.ref this)] h0 (PureI h0 n0 (1 : Int32)) := by
 refine Ctr.of (plainFor_of_name pn_1) (fun m => ef_c_cod1 m this) ?_
 intro p e s m below meth c T0 hx hby hml hown hnm hret hlk hZ e0 X0
 have N0 := Fr.nil n0
 replace hown : s.vm.findClass "java/lang/String" = some m.cls := hown
 replace hml : c.maxLocals = 1 := hml
 obtain ⟨T1, X1, e1, st1⟩ := getS2 X0 hx hZ hown (host := "") (Or.inl (wm19 hw)) Via.refl e0 S_COMPACT_STRINGS (g := (mkF m 0 #[.val (.ref this)] [])) rfl (hb hby d18_0)
 refine Run.st st1 ?_
 show Run p e below s _ _ _ (T1.setTop (mkF m 3 #[.val (.ref this)] [(.int cp)]))
 refine Run.x_ifNo (q := 6) X1 hx (hb hby d18_3) ((if0 _ _).trans (feq hcp).1) rfl ?_
 refine Run.x_aloadN (q := 7) X1 hx (hb hby d18_6) rfl rfl rfl ?_
 refine Run.z_getF (q := 10) X1 hx hZ e1 hown (wm31 hw) F_this_coder (hb hby d18_7) rfl fun T2 X2 e2 => ?_
 refine Run.x_goto (q := 14) X2 hx (hb hby d18_10) (by decide) (by decide) ?_
 refine Run.retN X2 hx hlk e2 (t := .byte) hret (by simp) (z' := (1 : Int32)) (by decide) (hb hby d18_14) (by decide) (by decide) ?_
 exact PureI.mk (by rfl) N0
theorem ef_c_il1_1 (m : MethodId) (this : Addr) : entryFrame m #[(.ref this)] 1 = mkF m 0 #[.val (.ref this)] [] := by first | (simp [entryFrame, mkF, argsToLocals, Value.category]; done) | rfl
set_option maxRecDepth 65536 in
set_option maxHeartbeats 40000000 in
theorem c_il1_1 (l : Launch) (Z : State) (a0 : Array Value) (hw : ∀ d ∈ tables_1, d.before a0 Z = true) (this : Addr) (h0 : Heap) (n0 : Nat) (Z0 : n0 ≤ h0.size) (cp : Int32) (E_this : Exa Z h0 this "java/lang/String") (F_this_coder : Fld Z h0 this "java/lang/String" "coder" "B" (.int 1)) (S_COMPACT_STRINGS : Sta Z h0 "java/lang/String" "COMPACT_STRINGS" "Z" (.int cp)) (hcp : ¬ cp = (0 : Int32)) :
  Ctr l Z (⟨"java/lang/String", "isLatin1", "()Z"⟩ : MethodName) jdk_42_method_154_code 1 (some .boolean) ({ frames := 0, cells := 0, slots := 0, locals := 0 } : Room) #[(.ref this)] h0 (PureI h0 n0 (0 : Int32)) := by
 refine Ctr.of (plainFor_of_name pn_1) (fun m => ef_c_il1_1 m this) ?_
 intro p e s m below meth c T0 hx hby hml hown hnm hret hlk hZ e0 X0
 have N0 := Fr.nil n0
 replace hown : s.vm.findClass "java/lang/String" = some m.cls := hown
 replace hml : c.maxLocals = 1 := hml
 obtain ⟨T1, X1, e1, st1⟩ := getS2 X0 hx hZ hown (host := "") (Or.inl (wm19 hw)) Via.refl e0 S_COMPACT_STRINGS (g := (mkF m 0 #[.val (.ref this)] [])) rfl (hb hby d19_0)
 refine Run.st st1 ?_
 show Run p e below s _ _ _ (T1.setTop (mkF m 3 #[.val (.ref this)] [(.int cp)]))
 refine Run.x_ifNo (q := 6) X1 hx (hb hby d19_3) ((if0 _ _).trans (feq hcp).1) rfl ?_
 refine Run.x_aloadN (q := 7) X1 hx (hb hby d19_6) rfl rfl rfl ?_
 refine Run.z_getF (q := 10) X1 hx hZ e1 hown (wm31 hw) F_this_coder (hb hby d19_7) rfl fun T2 X2 e2 => ?_
 refine Run.x_ifYes (q := 17) X2 hx (hb hby d19_10) ((if0 _ _).trans (feq (by decide : ¬ ((1 : Int32) = (0 : Int32)))).2) (by decide) (by decide) ?_
 refine Run.x_iconst (q := 18) X2 hx (hb hby d19_17) (z := (0 : Int32)) rfl rfl ?_
 refine Run.retN X2 hx hlk e2 (t := .boolean) hret (by simp) (z' := (0 : Int32)) (by decide) (hb hby d19_18) (by decide) (by decide) ?_
 exact PureI.mk (by rfl) N0
theorem ef_c_len1 (m : MethodId) (this : Addr) : entryFrame m #[(.ref this)] 1 = mkF m 0 #[.val (.ref this)] [] := by first | (simp [entryFrame, mkF, argsToLocals, Value.category]; done) | rfl
set_option maxRecDepth 65536 in
set_option maxHeartbeats 40000000 in
theorem c_len1 (l : Launch) (Z : State) (a0 : Array Value) (hw : ∀ d ∈ tables_1, d.before a0 Z = true) (this : Addr) (h0 : Heap) (n0 : Nat) (Z0 : n0 ≤ h0.size) (cp : Int32) (bts : Addr) (z : Int32) (vs : List Value) (ln : Int32) (E_this : Exa Z h0 this "java/lang/String") (F_this_coder : Fld Z h0 this "java/lang/String" "coder" "B" (.int 1)) (F_this_value : Fld Z h0 this "java/lang/String" "value" "[B" (.ref bts)) (A_bts : Ars Z h0 bts .byte vs) (S_COMPACT_STRINGS : Sta Z h0 "java/lang/String" "COMPACT_STRINGS" "Z" (.int cp)) (hcp : ¬ cp = (0 : Int32)) (hln : vs.length.toInt32 = ln) (hz : ln >>> ((1 : Int32) &&& 31) = z) :
  Ctr l Z (⟨"java/lang/String", "length", "()I"⟩ : MethodName) jdk_42_method_54_code 1 (some .int) ({ frames := 1, cells := 0, slots := 0, locals := 13 } : Room) #[(.ref this)] h0 (PureI h0 n0 z) := by
 refine Ctr.of (plainFor_of_name pn_1) (fun m => ef_c_len1 m this) ?_
 intro p e s m below meth c T0 hx hby hml hown hnm hret hlk hZ e0 X0
 have N0 := Fr.nil n0
 replace hown : s.vm.findClass "java/lang/String" = some m.cls := hown
 replace hml : c.maxLocals = 1 := hml
 refine Run.x_aloadN (q := 1) X0 hx (hb hby d20_0) rfl rfl rfl ?_
 refine Run.z_getF (q := 4) X0 hx hZ e0 hown (wm33 hw) F_this_value (hb hby d20_1) rfl fun T1 X1 e1 => ?_
 refine Run.y_alen (q := 5) X1 hx hZ e1 A_bts (z := ln) hln (hb hby d20_4) rfl ?_
 refine Run.x_aloadN (q := 6) X1 hx (hb hby d20_5) rfl rfl rfl ?_
 refine Run.callVI (q := 9) X1 hx hZ e1 (y := (⟨"java/lang/String", "coder", "()B"⟩ : MethodName)) (z := (⟨"java/lang/String", "coder", "()B"⟩ : MethodName)) hown (wm57 hw) (wm58 hw) (notFace_of_selects (args := #[]) (mvT hZ (wm60 hw))) (wm60 hw) (wm59 hw) (wm8 hw) (wm61 hw) (by decide) (a := this) E_this (argsL := []) (rest := [(.int ln)]) (c_cod1 l Z a0 hw this h0 n0 Z0 cp E_this F_this_coder S_COMPACT_STRINGS hcp) pd_13 rfl (by rw [hml]; rfl) (W := 1) rfl (by decide) (by decide) (by decide) (by decide) (hb hby d20_6) rfl rfl fun T2 L2 X2 M2 e2 => ?_
 have N2 := Fr.app N0 M2
 refine Run.x_ishr (q := 10) X2 hx (hb hby d20_9) rfl rfl ?_
 refine Run.retI X2 hx hlk e2 hret (hb hby d20_10) (by decide) (by decide) ?_
 exact PureI.mk (by exact hz) N2
theorem d21_0 : decode jdk_42_method_56_code 0 = .ok (.aload_n 0, 1) := by decide +kernel
theorem d21_1 : decode jdk_42_method_56_code 1 = .ok (.invokevirtual 492, 3) := by decide +kernel
theorem d21_4 : decode jdk_42_method_56_code 4 = .ok (.ifCond .eq 12, 3) := by decide +kernel
theorem d21_7 : decode jdk_42_method_56_code 7 = .ok (.aload_n 0, 1) := by decide +kernel
theorem d21_8 : decode jdk_42_method_56_code 8 = .ok (.getfield 9, 3) := by decide +kernel
theorem d21_11 : decode jdk_42_method_56_code 11 = .ok (.iload_n 1, 1) := by decide +kernel
theorem d21_12 : decode jdk_42_method_56_code 12 = .ok (.invokestatic 495, 3) := by decide +kernel
theorem d21_15 : decode jdk_42_method_56_code 15 = .ok (.ireturn, 1) := by decide +kernel
theorem d21_16 : decode jdk_42_method_56_code 16 = .ok (.aload_n 0, 1) := by decide +kernel
theorem d21_17 : decode jdk_42_method_56_code 17 = .ok (.getfield 9, 3) := by decide +kernel
theorem d21_20 : decode jdk_42_method_56_code 20 = .ok (.iload_n 1, 1) := by decide +kernel
theorem d21_21 : decode jdk_42_method_56_code 21 = .ok (.invokestatic 498, 3) := by decide +kernel
theorem d21_24 : decode jdk_42_method_56_code 24 = .ok (.ireturn, 1) := by decide +kernel
theorem ef_c_cha0 (m : MethodId) (this : Addr) (i : Int32) : entryFrame m #[(.ref this), (.int i)] 2 = mkF m 0 #[.val (.ref this), .val (.int i)] [] := by first | (simp [entryFrame, mkF, argsToLocals, Value.category]; done) | rfl
theorem wm67 {a0 : Array Value} {Z : State} (hw : ∀ d ∈ tables_1, d.before a0 Z = true) : (Jvm.Cond.methodLink "java/lang/String" (492 : Nat) ({ cls := "java/lang/String", name := "isLatin1", desc := "()Z" } : Jvm.MethodName)).before a0 Z = true := hw _ (List.mem_of_getElem? (i := 67) rfl)
theorem wm71 {a0 : Array Value} {Z : State} (hw : ∀ d ∈ tables_1, d.before a0 Z = true) : (Jvm.Cond.code ({ cls := "java/lang/String", name := "isLatin1", desc := "()Z" } : Jvm.MethodName) jdk_42_method_154_code (1 : Nat) (Option.some Jvm.ClassFile.FieldType.boolean)).before a0 Z = true := hw _ (List.mem_of_getElem? (i := 71) rfl)
theorem pd_14 : parseMethodDescriptor "()Z" = some ⟨[], some .boolean⟩ := by decide +kernel
theorem wm70 {a0 : Array Value} {Z : State} (hw : ∀ d ∈ tables_1, d.before a0 Z = true) : (Jvm.Cond.selects "java/lang/String" ({ cls := "java/lang/String", name := "isLatin1", desc := "()Z" } : Jvm.MethodName) ({ cls := "java/lang/String", name := "isLatin1", desc := "()Z" } : Jvm.MethodName)).before a0 Z = true := hw _ (List.mem_of_getElem? (i := 70) rfl)
theorem wm68 {a0 : Array Value} {Z : State} (hw : ∀ d ∈ tables_1, d.before a0 Z = true) : (Jvm.Cond.declares ({ cls := "java/lang/String", name := "isLatin1", desc := "()Z" } : Jvm.MethodName)).before a0 Z = true := hw _ (List.mem_of_getElem? (i := 68) rfl)
theorem wm69 {a0 : Array Value} {Z : State} (hw : ∀ d ∈ tables_1, d.before a0 Z = true) : (Jvm.Cond.instanceMethod ({ cls := "java/lang/String", name := "isLatin1", desc := "()Z" } : Jvm.MethodName)).before a0 Z = true := hw _ (List.mem_of_getElem? (i := 69) rfl)
theorem wm72 {a0 : Array Value} {Z : State} (hw : ∀ d ∈ tables_1, d.before a0 Z = true) : (Jvm.Cond.methodLink "java/lang/String" (495 : Nat) ({ cls := "java/lang/StringLatin1", name := "charAt", desc := "([BI)C" } : Jvm.MethodName)).before a0 Z = true := hw _ (List.mem_of_getElem? (i := 72) rfl)
theorem wm75 {a0 : Array Value} {Z : State} (hw : ∀ d ∈ tables_1, d.before a0 Z = true) : (Jvm.Cond.code ({ cls := "java/lang/StringLatin1", name := "charAt", desc := "([BI)C" } : Jvm.MethodName) jdk_43_method_2_code (2 : Nat) (Option.some Jvm.ClassFile.FieldType.char)).before a0 Z = true := hw _ (List.mem_of_getElem? (i := 75) rfl)
theorem wm73 {a0 : Array Value} {Z : State} (hw : ∀ d ∈ tables_1, d.before a0 Z = true) : (Jvm.Cond.static ({ cls := "java/lang/StringLatin1", name := "charAt", desc := "([BI)C" } : Jvm.MethodName)).before a0 Z = true := hw _ (List.mem_of_getElem? (i := 73) rfl)
theorem wm74 {a0 : Array Value} {Z : State} (hw : ∀ d ∈ tables_1, d.before a0 Z = true) : (Jvm.Cond.initialized "java/lang/StringLatin1").before a0 Z = true := hw _ (List.mem_of_getElem? (i := 74) rfl)
set_option maxRecDepth 65536 in
set_option maxHeartbeats 40000000 in
theorem c_cha0 (l : Launch) (Z : State) (a0 : Array Value) (hw : ∀ d ∈ tables_1, d.before a0 Z = true) (this : Addr) (i : Int32) (h0 : Heap) (n0 : Nat) (Z0 : n0 ≤ h0.size) (cp : Int32) (bts : Addr) (vs : List Value) (ln : Int32) (sf : Value) (ii : Nat) (x : Int32) (z : Int32) (E_this : Exa Z h0 this "java/lang/String") (F_this_coder : Fld Z h0 this "java/lang/String" "coder" "B" (.int 0)) (F_this_value : Fld Z h0 this "java/lang/String" "value" "[B" (.ref bts)) (A_bts : Ars Z h0 bts .byte vs) (S_COMPACT_STRINGS : Sta Z h0 "java/lang/String" "COMPACT_STRINGS" "Z" (.int cp)) (S_SIOOBE_FORMATTER : Sta Z h0 "jdk/internal/util/Preconditions" "SIOOBE_FORMATTER" "Ljava/util/function/BiFunction;" sf) (hcp : ¬ cp = (0 : Int32)) (hsf : sf.isRef = true) (hln : vs.length.toInt32 = ln) (hi : i.toInt = ii) (hv : vs[ii]? = some (.int x)) (h1 : ¬ i < (0 : Int32)) (h2 : i < ln) (hz : (x &&& (255 : Int32)).toUInt32.toUInt16.toUInt32.toInt32 = z) (hnz : nar .char z = z) :
  Ctr l Z (⟨"java/lang/String", "charAt", "(I)C"⟩ : MethodName) jdk_42_method_56_code 2 (some .char) ({ frames := 3, cells := 0, slots := 0, locals := 40 } : Room) #[(.ref this), (.int i)] h0 (PureI h0 n0 z) := by
 refine Ctr.of (plainFor_of_name pn_1) (fun m => ef_c_cha0 m this i) ?_
 intro p e s m below meth c T0 hx hby hml hown hnm hret hlk hZ e0 X0
 have N0 := Fr.nil n0
 replace hown : s.vm.findClass "java/lang/String" = some m.cls := hown
 replace hml : c.maxLocals = 2 := hml
 refine Run.x_aloadN (q := 1) X0 hx (hb hby d21_0) rfl rfl rfl ?_
 refine Run.callVI (q := 4) X0 hx hZ e0 (y := (⟨"java/lang/String", "isLatin1", "()Z"⟩ : MethodName)) (z := (⟨"java/lang/String", "isLatin1", "()Z"⟩ : MethodName)) hown (wm67 hw) (wm68 hw) (notFace_of_selects (args := #[]) (mvT hZ (wm70 hw))) (wm70 hw) (wm69 hw) (wm8 hw) (wm71 hw) (by decide) (a := this) E_this (argsL := []) (rest := []) (c_il1_0 l Z a0 hw this h0 n0 Z0 cp E_this F_this_coder S_COMPACT_STRINGS hcp) pd_14 rfl (by rw [hml]; rfl) (W := 0) rfl (by decide) (by decide) (by decide) (by decide) (hb hby d21_1) rfl rfl fun T1 L1 X1 M1 e1 => ?_
 have N1 := Fr.app N0 M1
 refine Run.x_ifNo (q := 7) X1 hx (hb hby d21_4) ((if0 _ _).trans (feq (by decide : ¬ ((1 : Int32) = (0 : Int32)))).1) rfl ?_
 refine Run.x_aloadN (q := 8) X1 hx (hb hby d21_7) rfl rfl rfl ?_
 refine Run.z_getF (q := 11) X1 hx hZ e1 hown (wm33 hw) F_this_value (hb hby d21_8) rfl fun T2 X2 e2 => ?_
 refine Run.x_iloadN (q := 12) X2 hx (hb hby d21_11) rfl rfl ?_
 refine Run.callSI (q := 15) X2 hx hZ e2 (y := (⟨"java/lang/StringLatin1", "charAt", "([BI)C"⟩ : MethodName)) hown (wm72 hw) (wm73 hw) (wm74 hw) (wm75 hw) (by decide) (argsL := [(.ref bts), (.int i)]) (rest := []) (c_l1 l Z a0 hw bts i h0 n0 Z0 vs ln sf ii x z A_bts S_SIOOBE_FORMATTER hsf hln hi hv h1 h2 hz) pd_4 rfl (by rw [hml]; rfl) (W := 0) rfl (by decide) (by decide) (by decide) (by decide) (hb hby d21_12) rfl rfl fun T3 L3 X3 M3 e3 => ?_
 have N3 := Fr.app N1 M3
 refine Run.retN X3 hx hlk e3 (t := .char) hret (by simp) (z' := z) hnz (hb hby d21_15) (by decide) (by decide) ?_
 exact PureI.mk (by rfl) N3
theorem ef_c_cha1 (m : MethodId) (this : Addr) (i : Int32) : entryFrame m #[(.ref this), (.int i)] 2 = mkF m 0 #[.val (.ref this), .val (.int i)] [] := by first | (simp [entryFrame, mkF, argsToLocals, Value.category]; done) | rfl
theorem wm107 {a0 : Array Value} {Z : State} (hw : ∀ d ∈ tables_1, d.before a0 Z = true) : (Jvm.Cond.methodLink "java/lang/String" (498 : Nat) ({ cls := "java/lang/StringUTF16", name := "charAt", desc := "([BI)C" } : Jvm.MethodName)).before a0 Z = true := hw _ (List.mem_of_getElem? (i := 107) rfl)
theorem wm109 {a0 : Array Value} {Z : State} (hw : ∀ d ∈ tables_1, d.before a0 Z = true) : (Jvm.Cond.code ({ cls := "java/lang/StringUTF16", name := "charAt", desc := "([BI)C" } : Jvm.MethodName) jdk_52_method_83_code (2 : Nat) (Option.some Jvm.ClassFile.FieldType.char)).before a0 Z = true := hw _ (List.mem_of_getElem? (i := 109) rfl)
theorem wm108 {a0 : Array Value} {Z : State} (hw : ∀ d ∈ tables_1, d.before a0 Z = true) : (Jvm.Cond.static ({ cls := "java/lang/StringUTF16", name := "charAt", desc := "([BI)C" } : Jvm.MethodName)).before a0 Z = true := hw _ (List.mem_of_getElem? (i := 108) rfl)
set_option maxRecDepth 65536 in
set_option maxHeartbeats 40000000 in
theorem c_cha1 (l : Launch) (Z : State) (a0 : Array Value) (hw : ∀ d ∈ tables_1, d.before a0 Z = true) (this : Addr) (i : Int32) (h0 : Heap) (n0 : Nat) (Z0 : n0 ≤ h0.size) (cp : Int32) (bts : Addr) (vs : List Value) (ln : Int32) (sf : Value) (l2 : Int32) (jj : Nat) (x0 : Int32) (x1 : Int32) (z : Int32) (E_this : Exa Z h0 this "java/lang/String") (F_this_coder : Fld Z h0 this "java/lang/String" "coder" "B" (.int 1)) (F_this_value : Fld Z h0 this "java/lang/String" "value" "[B" (.ref bts)) (A_bts : Ars Z h0 bts .byte vs) (S_COMPACT_STRINGS : Sta Z h0 "java/lang/String" "COMPACT_STRINGS" "Z" (.int cp)) (S_SIOOBE_FORMATTER : Sta Z h0 "jdk/internal/util/Preconditions" "SIOOBE_FORMATTER" "Ljava/util/function/BiFunction;" sf) (S__assertionsDisabled : Sta Z h0 "java/lang/StringUTF16" "$assertionsDisabled" "Z" (.int 1)) (S_HI_BYTE_SHIFT : Sta Z h0 "java/lang/StringUTF16" "HI_BYTE_SHIFT" "I" (.int 0)) (S_LO_BYTE_SHIFT : Sta Z h0 "java/lang/StringUTF16" "LO_BYTE_SHIFT" "I" (.int 8)) (hcp : ¬ cp = (0 : Int32)) (hsf : sf.isRef = true) (hln : vs.length.toInt32 = ln) (hl2 : ln >>> ((1 : Int32) &&& 31) = l2) (h1 : ¬ i < (0 : Int32)) (h2 : i < l2) (hj0 : (i <<< ((1 : Int32) &&& 31)).toInt = jj) (hj1 : ((i <<< ((1 : Int32) &&& 31)) + (1 : Int32)).toInt = (jj + 1 : Nat)) (hv0 : vs[jj]? = some (.int x0)) (hv1 : vs[jj + 1]? = some (.int x1)) (hz : ((x0 &&& (255 : Int32)) <<< ((0 : Int32) &&& 31) ||| (x1 &&& (255 : Int32)) <<< ((8 : Int32) &&& 31)).toUInt32.toUInt16.toUInt32.toInt32 = z) (hnz : nar .char z = z) :
  Ctr l Z (⟨"java/lang/String", "charAt", "(I)C"⟩ : MethodName) jdk_42_method_56_code 2 (some .char) ({ frames := 4, cells := 0, slots := 0, locals := 53 } : Room) #[(.ref this), (.int i)] h0 (PureI h0 n0 z) := by
 refine Ctr.of (plainFor_of_name pn_1) (fun m => ef_c_cha1 m this i) ?_
 intro p e s m below meth c T0 hx hby hml hown hnm hret hlk hZ e0 X0
 have N0 := Fr.nil n0
 replace hown : s.vm.findClass "java/lang/String" = some m.cls := hown
 replace hml : c.maxLocals = 2 := hml
 refine Run.x_aloadN (q := 1) X0 hx (hb hby d21_0) rfl rfl rfl ?_
 refine Run.callVI (q := 4) X0 hx hZ e0 (y := (⟨"java/lang/String", "isLatin1", "()Z"⟩ : MethodName)) (z := (⟨"java/lang/String", "isLatin1", "()Z"⟩ : MethodName)) hown (wm67 hw) (wm68 hw) (notFace_of_selects (args := #[]) (mvT hZ (wm70 hw))) (wm70 hw) (wm69 hw) (wm8 hw) (wm71 hw) (by decide) (a := this) E_this (argsL := []) (rest := []) (c_il1_1 l Z a0 hw this h0 n0 Z0 cp E_this F_this_coder S_COMPACT_STRINGS hcp) pd_14 rfl (by rw [hml]; rfl) (W := 0) rfl (by decide) (by decide) (by decide) (by decide) (hb hby d21_1) rfl rfl fun T1 L1 X1 M1 e1 => ?_
 have N1 := Fr.app N0 M1
 refine Run.x_ifYes (q := 16) X1 hx (hb hby d21_4) ((if0 _ _).trans (teq (by decide : (0 : Int32) = (0 : Int32))).1) (by decide) (by decide) ?_
 refine Run.x_aloadN (q := 17) X1 hx (hb hby d21_16) rfl rfl rfl ?_
 refine Run.z_getF (q := 20) X1 hx hZ e1 hown (wm33 hw) F_this_value (hb hby d21_17) rfl fun T2 X2 e2 => ?_
 refine Run.x_iloadN (q := 21) X2 hx (hb hby d21_20) rfl rfl ?_
 refine Run.callSI (q := 24) X2 hx hZ e2 (y := (⟨"java/lang/StringUTF16", "charAt", "([BI)C"⟩ : MethodName)) hown (wm107 hw) (wm108 hw) (wm22 hw) (wm109 hw) (by decide) (argsL := [(.ref bts), (.int i)]) (rest := []) (c_uca l Z a0 hw bts i h0 n0 Z0 vs ln sf l2 jj x0 x1 z A_bts S__assertionsDisabled S_HI_BYTE_SHIFT S_LO_BYTE_SHIFT S_SIOOBE_FORMATTER hsf hln hl2 h1 h2 hj0 hj1 hv0 hv1 hz hnz) pd_4 rfl (by rw [hml]; rfl) (W := 0) rfl (by decide) (by decide) (by decide) (by decide) (hb hby d21_21) rfl rfl fun T3 L3 X3 M3 e3 => ?_
 have N3 := Fr.app N1 M3
 refine Run.retN X3 hx hlk e3 (t := .char) hret (by simp) (z' := z) hnz (hb hby d21_24) (by decide) (by decide) ?_
 exact PureI.mk (by rfl) N3
theorem d22_0 : decode prog_91_method_1_code 0 = .ok (.aload_n 0, 1) := by decide +kernel
theorem d22_1 : decode prog_91_method_1_code 1 = .ok (.invokespecial 1, 3) := by decide +kernel
theorem d22_4 : decode prog_91_method_1_code 4 = .ok (.aload_n 0, 1) := by decide +kernel
theorem d22_5 : decode prog_91_method_1_code 5 = .ok (.aload_n 1, 1) := by decide +kernel
theorem d22_6 : decode prog_91_method_1_code 6 = .ok (.putfield 7, 3) := by decide +kernel
theorem d22_9 : decode prog_91_method_1_code 9 = .ok (.return_, 1) := by decide +kernel
theorem pn_5 : plainName "com/example/sayso/sayso/TextCursor" = true := by first | (simp [plainName, overriddenIn]; done) | decide +kernel
theorem ef_c_tci (m : MethodId) (this : Addr) (tx : Addr) : entryFrame m #[(.ref this), (.ref tx)] 2 = mkF m 0 #[.val (.ref this), .val (.ref tx)] [] := by first | (simp [entryFrame, mkF, argsToLocals, Value.category]; done) | rfl
theorem wm41 {a0 : Array Value} {Z : State} (hw : ∀ d ∈ tables_1, d.before a0 Z = true) : (Jvm.Cond.methodLink "com/example/sayso/sayso/TextCursor" (1 : Nat) ({ cls := "java/lang/Object", name := "<init>", desc := "()V" } : Jvm.MethodName)).before a0 Z = true := hw _ (List.mem_of_getElem? (i := 41) rfl)
theorem wm42 {a0 : Array Value} {Z : State} (hw : ∀ d ∈ tables_1, d.before a0 Z = true) : (Jvm.Cond.fieldLink "com/example/sayso/sayso/TextCursor" (7 : Nat) "com/example/sayso/sayso/TextCursor" "text" "Ljava/lang/String;").before a0 Z = true := hw _ (List.mem_of_getElem? (i := 42) rfl)
theorem wm43 {a0 : Array Value} {Z : State} (hw : ∀ d ∈ tables_1, d.before a0 Z = true) : (Jvm.Cond.laysFinal "com/example/sayso/sayso/TextCursor" "com/example/sayso/sayso/TextCursor" "text" "Ljava/lang/String;").before a0 Z = true := hw _ (List.mem_of_getElem? (i := 43) rfl)
theorem wm36 {a0 : Array Value} {Z : State} (hw : ∀ d ∈ tables_1, d.before a0 Z = true) : (Jvm.Cond.instantiable "com/example/sayso/sayso/TextCursor" (3 : Nat)).before a0 Z = true := hw _ (List.mem_of_getElem? (i := 36) rfl)
theorem wm45 {a0 : Array Value} {Z : State} (hw : ∀ d ∈ tables_1, d.before a0 Z = true) : (Jvm.Cond.lays "com/example/sayso/sayso/TextCursor" "com/example/sayso/sayso/TextCursor" "position" "I").before a0 Z = true := hw _ (List.mem_of_getElem? (i := 45) rfl)
set_option maxRecDepth 65536 in
set_option maxHeartbeats 40000000 in
theorem c_tci (l : Launch) (Z : State) (a0 : Array Value) (hw : ∀ d ∈ tables_1, d.before a0 Z = true) (this : Addr) (tx : Addr) (h0 : Heap) (n0 : Nat) (Z0 : n0 ≤ h0.size) (E_this : Exa Z h0 this "com/example/sayso/sayso/TextCursor") (F_this_text : Fld Z h0 this "com/example/sayso/sayso/TextCursor" "text" "Ljava/lang/String;" .null) (F_this_position : Fld Z h0 this "com/example/sayso/sayso/TextCursor" "position" "I" (.int 0)) (g_this : n0 ≤ this) :
  Ctr l Z (⟨"com/example/sayso/sayso/TextCursor", "<init>", "(Ljava/lang/String;)V"⟩ : MethodName) prog_91_method_1_code 2 none ({ frames := 1, cells := 0, slots := 0, locals := 12 } : Room) #[(.ref this), (.ref tx)] h0 (fun v h L => v = none ∧ Fr n0 L ∧ Keep h0 h [this] ∧ Exa Z h this "com/example/sayso/sayso/TextCursor" ∧ Fld Z h this "com/example/sayso/sayso/TextCursor" "text" "Ljava/lang/String;" (.ref tx) ∧ Fld Z h this "com/example/sayso/sayso/TextCursor" "position" "I" (.int 0)) := by
 refine Ctr.of (plainFor_of_name pn_5) (fun m => ef_c_tci m this tx) ?_
 intro p e s m below meth c T0 hx hby hml hown hnm hret hlk hZ e0 X0
 have N0 := Fr.nil n0
 replace hown : s.vm.findClass "com/example/sayso/sayso/TextCursor" = some m.cls := hown
 replace hml : c.maxLocals = 2 := hml
 have KP := Keep.refl h0 [this]
 refine Run.x_aloadN (q := 1) X0 hx (hb hby d22_0) rfl rfl rfl ?_
 refine Run.init X0 hx hZ e0 hown (wm41 hw) (wm17 hw) (wm18 hw) (by rw [hml]; rfl) (hb hby d22_1) (by decide) (W := 0) rfl (by decide) ?_
 intro T1 X1 e1
 show Run p e below s _ _ _ (T1.setTop (mkF m 4 #[.val (.ref this), .val (.ref tx)] []))
 refine Run.x_aloadN (q := 5) X1 hx (hb hby d22_4) rfl rfl rfl ?_
 refine Run.x_aloadN (q := 6) X1 hx (hb hby d22_5) rfl rfl rfl ?_
 obtain ⟨T2, h2, X2, e2, W2, st2⟩ := putF X1 hx hZ hown (host := "") (Or.inl (wm42 hw)) Via.refl e1 F_this_text E_this (Or.inr ⟨(wm43 hw), rfl, hnm⟩) (wm36 hw) (ty := (.object "java/lang/String")) (by decide) rfl rfl (g := (mkF m 6 #[.val (.ref this), .val (.ref tx)] [(.ref tx), (.ref this)])) rfl rfl (hb hby d22_6)
 replace F_this_text := F_this_text.same W2
 have Z2 : n0 ≤ h2.size := Nat.le_trans Z0 (Nat.le_of_eq W2.size.symm)
 replace KP := KP.wr W2 (Or.inl (by simp))
 have N2 := Fr.snoc X2 N0 g_this
 refine Run.st st2 ?_
 show Run p e below s _ _ _ (T2.setTop (mkF m 9 #[.val (.ref this), .val (.ref tx)] []))
 replace E_this := E_this.wr W2
 replace F_this_position := F_this_position.other W2 (Or.inr (slot_ne (Or.inl (wm45 hw)) (Or.inr (wm43 hw)) (by decide) (t := .int) (t' := (.object "java/lang/String")) (by decide) (by decide)))
 refine Run.retV X2 hx hlk e2 hret (hb hby d22_9) (by decide) (by decide) ?_
 exact ⟨rfl, N2, KP, E_this, F_this_text, F_this_position⟩
theorem d23_0 : decode prog_91_method_8_code 0 = .ok (.aload_n 0, 1) := by decide +kernel
theorem d23_1 : decode prog_91_method_8_code 1 = .ok (.getfield 74, 3) := by decide +kernel
theorem d23_4 : decode prog_91_method_8_code 4 = .ok (.aload_n 0, 1) := by decide +kernel
theorem d23_5 : decode prog_91_method_8_code 5 = .ok (.getfield 7, 3) := by decide +kernel
theorem d23_8 : decode prog_91_method_8_code 8 = .ok (.invokevirtual 77, 3) := by decide +kernel
theorem d23_11 : decode prog_91_method_8_code 11 = .ok (.if_icmp .ge 22, 3) := by decide +kernel
theorem d23_14 : decode prog_91_method_8_code 14 = .ok (.aload_n 0, 1) := by decide +kernel
theorem d23_15 : decode prog_91_method_8_code 15 = .ok (.getfield 7, 3) := by decide +kernel
theorem d23_18 : decode prog_91_method_8_code 18 = .ok (.aload_n 0, 1) := by decide +kernel
theorem d23_19 : decode prog_91_method_8_code 19 = .ok (.getfield 74, 3) := by decide +kernel
theorem d23_22 : decode prog_91_method_8_code 22 = .ok (.invokevirtual 83, 3) := by decide +kernel
theorem d23_25 : decode prog_91_method_8_code 25 = .ok (.iload_n 1, 1) := by decide +kernel
theorem d23_26 : decode prog_91_method_8_code 26 = .ok (.if_icmp .ne 7, 3) := by decide +kernel
theorem d23_29 : decode prog_91_method_8_code 29 = .ok (.iconst 1, 1) := by decide +kernel
theorem d23_30 : decode prog_91_method_8_code 30 = .ok (.goto 4, 3) := by decide +kernel
theorem d23_33 : decode prog_91_method_8_code 33 = .ok (.iconst 0, 1) := by decide +kernel
theorem d23_34 : decode prog_91_method_8_code 34 = .ok (.ireturn, 1) := by decide +kernel
theorem ef_c_atg0 (m : MethodId) (this : Addr) (w : Int32) : entryFrame m #[(.ref this), (.int w)] 2 = mkF m 0 #[.val (.ref this), .val (.int w)] [] := by first | (simp [entryFrame, mkF, argsToLocals, Value.category]; done) | rfl
theorem wm51 {a0 : Array Value} {Z : State} (hw : ∀ d ∈ tables_1, d.before a0 Z = true) : (Jvm.Cond.fieldLink "com/example/sayso/sayso/TextCursor" (74 : Nat) "com/example/sayso/sayso/TextCursor" "position" "I").before a0 Z = true := hw _ (List.mem_of_getElem? (i := 51) rfl)
theorem wm52 {a0 : Array Value} {Z : State} (hw : ∀ d ∈ tables_1, d.before a0 Z = true) : (Jvm.Cond.methodLink "com/example/sayso/sayso/TextCursor" (77 : Nat) ({ cls := "java/lang/String", name := "length", desc := "()I" } : Jvm.MethodName)).before a0 Z = true := hw _ (List.mem_of_getElem? (i := 52) rfl)
theorem wm56 {a0 : Array Value} {Z : State} (hw : ∀ d ∈ tables_1, d.before a0 Z = true) : (Jvm.Cond.code ({ cls := "java/lang/String", name := "length", desc := "()I" } : Jvm.MethodName) jdk_42_method_54_code (1 : Nat) (Option.some Jvm.ClassFile.FieldType.int)).before a0 Z = true := hw _ (List.mem_of_getElem? (i := 56) rfl)
theorem pd_15 : parseMethodDescriptor "()I" = some ⟨[], some .int⟩ := by decide +kernel
theorem wm55 {a0 : Array Value} {Z : State} (hw : ∀ d ∈ tables_1, d.before a0 Z = true) : (Jvm.Cond.selects "java/lang/String" ({ cls := "java/lang/String", name := "length", desc := "()I" } : Jvm.MethodName) ({ cls := "java/lang/String", name := "length", desc := "()I" } : Jvm.MethodName)).before a0 Z = true := hw _ (List.mem_of_getElem? (i := 55) rfl)
theorem wm53 {a0 : Array Value} {Z : State} (hw : ∀ d ∈ tables_1, d.before a0 Z = true) : (Jvm.Cond.declares ({ cls := "java/lang/String", name := "length", desc := "()I" } : Jvm.MethodName)).before a0 Z = true := hw _ (List.mem_of_getElem? (i := 53) rfl)
theorem wm54 {a0 : Array Value} {Z : State} (hw : ∀ d ∈ tables_1, d.before a0 Z = true) : (Jvm.Cond.instanceMethod ({ cls := "java/lang/String", name := "length", desc := "()I" } : Jvm.MethodName)).before a0 Z = true := hw _ (List.mem_of_getElem? (i := 54) rfl)
set_option maxRecDepth 65536 in
set_option maxHeartbeats 40000000 in
theorem c_atg0 (l : Launch) (Z : State) (a0 : Array Value) (hw : ∀ d ∈ tables_1, d.before a0 Z = true) (this : Addr) (w : Int32) (h0 : Heap) (n0 : Nat) (Z0 : n0 ≤ h0.size) (i : Int32) (nn : Int32) (str : Addr) (cp : Int32) (bts : Addr) (vs : List Value) (ln : Int32) (E_this : Exa Z h0 this "com/example/sayso/sayso/TextCursor") (F_this_position : Fld Z h0 this "com/example/sayso/sayso/TextCursor" "position" "I" (.int i)) (F_this_text : Fld Z h0 this "com/example/sayso/sayso/TextCursor" "text" "Ljava/lang/String;" (.ref str)) (E_str : Exa Z h0 str "java/lang/String") (F_str_coder : Fld Z h0 str "java/lang/String" "coder" "B" (.int 0)) (F_str_value : Fld Z h0 str "java/lang/String" "value" "[B" (.ref bts)) (A_bts : Ars Z h0 bts .byte vs) (S_COMPACT_STRINGS : Sta Z h0 "java/lang/String" "COMPACT_STRINGS" "Z" (.int cp)) (hcp : ¬ cp = (0 : Int32)) (hln : vs.length.toInt32 = ln) (hlz : ln >>> ((0 : Int32) &&& 31) = nn) (hip : ¬ i < nn) :
  Ctr l Z (⟨"com/example/sayso/sayso/TextCursor", "at", "(C)Z"⟩ : MethodName) prog_91_method_8_code 2 (some .boolean) ({ frames := 2, cells := 0, slots := 0, locals := 26 } : Room) #[(.ref this), (.int w)] h0 (PureI h0 n0 (0 : Int32)) := by
 refine Ctr.of (plainFor_of_name pn_5) (fun m => ef_c_atg0 m this w) ?_
 intro p e s m below meth c T0 hx hby hml hown hnm hret hlk hZ e0 X0
 have N0 := Fr.nil n0
 replace hown : s.vm.findClass "com/example/sayso/sayso/TextCursor" = some m.cls := hown
 replace hml : c.maxLocals = 2 := hml
 refine Run.x_aloadN (q := 1) X0 hx (hb hby d23_0) rfl rfl rfl ?_
 refine Run.z_getF (q := 4) X0 hx hZ e0 hown (wm51 hw) F_this_position (hb hby d23_1) rfl fun T1 X1 e1 => ?_
 refine Run.x_aloadN (q := 5) X1 hx (hb hby d23_4) rfl rfl rfl ?_
 refine Run.z_getF (q := 8) X1 hx hZ e1 hown (wm42 hw) F_this_text (hb hby d23_5) rfl fun T2 X2 e2 => ?_
 refine Run.callVI (q := 11) X2 hx hZ e2 (y := (⟨"java/lang/String", "length", "()I"⟩ : MethodName)) (z := (⟨"java/lang/String", "length", "()I"⟩ : MethodName)) hown (wm52 hw) (wm53 hw) (notFace_of_selects (args := #[]) (mvT hZ (wm55 hw))) (wm55 hw) (wm54 hw) (wm8 hw) (wm56 hw) (by decide) (a := str) E_str (argsL := []) (rest := [(.int i)]) (c_len0 l Z a0 hw str h0 n0 Z0 cp bts nn vs ln E_str F_str_coder F_str_value A_bts S_COMPACT_STRINGS hcp hln hlz) pd_15 rfl (by rw [hml]; rfl) (W := 1) rfl (by decide) (by decide) (by decide) (by decide) (hb hby d23_8) rfl rfl fun T3 L3 X3 M3 e3 => ?_
 have N3 := Fr.app N0 M3
 refine Run.x_icmpYes (q := 33) X3 hx (hb hby d23_11) (flt hip).2.1 (by decide) (by decide) ?_
 refine Run.x_iconst (q := 34) X3 hx (hb hby d23_33) (z := (0 : Int32)) rfl rfl ?_
 refine Run.retN X3 hx hlk e3 (t := .boolean) hret (by simp) (z' := (0 : Int32)) (by decide) (hb hby d23_34) (by decide) (by decide) ?_
 exact PureI.mk (by rfl) N3
theorem ef_c_atl0 (m : MethodId) (this : Addr) (w : Int32) : entryFrame m #[(.ref this), (.int w)] 2 = mkF m 0 #[.val (.ref this), .val (.int w)] [] := by first | (simp [entryFrame, mkF, argsToLocals, Value.category]; done) | rfl
theorem wm62 {a0 : Array Value} {Z : State} (hw : ∀ d ∈ tables_1, d.before a0 Z = true) : (Jvm.Cond.methodLink "com/example/sayso/sayso/TextCursor" (83 : Nat) ({ cls := "java/lang/String", name := "charAt", desc := "(I)C" } : Jvm.MethodName)).before a0 Z = true := hw _ (List.mem_of_getElem? (i := 62) rfl)
theorem wm66 {a0 : Array Value} {Z : State} (hw : ∀ d ∈ tables_1, d.before a0 Z = true) : (Jvm.Cond.code ({ cls := "java/lang/String", name := "charAt", desc := "(I)C" } : Jvm.MethodName) jdk_42_method_56_code (2 : Nat) (Option.some Jvm.ClassFile.FieldType.char)).before a0 Z = true := hw _ (List.mem_of_getElem? (i := 66) rfl)
theorem pd_16 : parseMethodDescriptor "(I)C" = some ⟨[.int], some .char⟩ := by decide +kernel
theorem wm65 {a0 : Array Value} {Z : State} (hw : ∀ d ∈ tables_1, d.before a0 Z = true) : (Jvm.Cond.selects "java/lang/String" ({ cls := "java/lang/String", name := "charAt", desc := "(I)C" } : Jvm.MethodName) ({ cls := "java/lang/String", name := "charAt", desc := "(I)C" } : Jvm.MethodName)).before a0 Z = true := hw _ (List.mem_of_getElem? (i := 65) rfl)
theorem wm63 {a0 : Array Value} {Z : State} (hw : ∀ d ∈ tables_1, d.before a0 Z = true) : (Jvm.Cond.declares ({ cls := "java/lang/String", name := "charAt", desc := "(I)C" } : Jvm.MethodName)).before a0 Z = true := hw _ (List.mem_of_getElem? (i := 63) rfl)
theorem wm64 {a0 : Array Value} {Z : State} (hw : ∀ d ∈ tables_1, d.before a0 Z = true) : (Jvm.Cond.instanceMethod ({ cls := "java/lang/String", name := "charAt", desc := "(I)C" } : Jvm.MethodName)).before a0 Z = true := hw _ (List.mem_of_getElem? (i := 64) rfl)
set_option maxRecDepth 65536 in
set_option maxHeartbeats 40000000 in
theorem c_atl0 (l : Launch) (Z : State) (a0 : Array Value) (hw : ∀ d ∈ tables_1, d.before a0 Z = true) (this : Addr) (w : Int32) (h0 : Heap) (n0 : Nat) (Z0 : n0 ≤ h0.size) (i : Int32) (nn : Int32) (str : Addr) (cp : Int32) (bts : Addr) (vs : List Value) (ln : Int32) (sf : Value) (ii : Nat) (x : Int32) (z : Int32) (E_this : Exa Z h0 this "com/example/sayso/sayso/TextCursor") (F_this_position : Fld Z h0 this "com/example/sayso/sayso/TextCursor" "position" "I" (.int i)) (F_this_text : Fld Z h0 this "com/example/sayso/sayso/TextCursor" "text" "Ljava/lang/String;" (.ref str)) (E_str : Exa Z h0 str "java/lang/String") (F_str_coder : Fld Z h0 str "java/lang/String" "coder" "B" (.int 0)) (F_str_value : Fld Z h0 str "java/lang/String" "value" "[B" (.ref bts)) (A_bts : Ars Z h0 bts .byte vs) (S_COMPACT_STRINGS : Sta Z h0 "java/lang/String" "COMPACT_STRINGS" "Z" (.int cp)) (S_SIOOBE_FORMATTER : Sta Z h0 "jdk/internal/util/Preconditions" "SIOOBE_FORMATTER" "Ljava/util/function/BiFunction;" sf) (hcp : ¬ cp = (0 : Int32)) (hlz : ln >>> ((0 : Int32) &&& 31) = nn) (hip : i < nn) (hsf : sf.isRef = true) (hln : vs.length.toInt32 = ln) (hi : i.toInt = ii) (hv : vs[ii]? = some (.int x)) (h1 : ¬ i < (0 : Int32)) (h2 : i < ln) (hz : (x &&& (255 : Int32)).toUInt32.toUInt16.toUInt32.toInt32 = z) (hnz : nar .char z = z) :
  Ctr l Z (⟨"com/example/sayso/sayso/TextCursor", "at", "(C)Z"⟩ : MethodName) prog_91_method_8_code 2 (some .boolean) ({ frames := 4, cells := 0, slots := 0, locals := 53 } : Room) #[(.ref this), (.int w)] h0 (PureI h0 n0 (own_b (z = w))) := by
 refine Ctr.of (plainFor_of_name pn_5) (fun m => ef_c_atl0 m this w) ?_
 intro p e s m below meth c T0 hx hby hml hown hnm hret hlk hZ e0 X0
 have N0 := Fr.nil n0
 replace hown : s.vm.findClass "com/example/sayso/sayso/TextCursor" = some m.cls := hown
 replace hml : c.maxLocals = 2 := hml
 refine Run.x_aloadN (q := 1) X0 hx (hb hby d23_0) rfl rfl rfl ?_
 refine Run.z_getF (q := 4) X0 hx hZ e0 hown (wm51 hw) F_this_position (hb hby d23_1) rfl fun T1 X1 e1 => ?_
 refine Run.x_aloadN (q := 5) X1 hx (hb hby d23_4) rfl rfl rfl ?_
 refine Run.z_getF (q := 8) X1 hx hZ e1 hown (wm42 hw) F_this_text (hb hby d23_5) rfl fun T2 X2 e2 => ?_
 refine Run.callVI (q := 11) X2 hx hZ e2 (y := (⟨"java/lang/String", "length", "()I"⟩ : MethodName)) (z := (⟨"java/lang/String", "length", "()I"⟩ : MethodName)) hown (wm52 hw) (wm53 hw) (notFace_of_selects (args := #[]) (mvT hZ (wm55 hw))) (wm55 hw) (wm54 hw) (wm8 hw) (wm56 hw) (by decide) (a := str) E_str (argsL := []) (rest := [(.int i)]) (c_len0 l Z a0 hw str h0 n0 Z0 cp bts nn vs ln E_str F_str_coder F_str_value A_bts S_COMPACT_STRINGS hcp hln hlz) pd_15 rfl (by rw [hml]; rfl) (W := 1) rfl (by decide) (by decide) (by decide) (by decide) (hb hby d23_8) rfl rfl fun T3 L3 X3 M3 e3 => ?_
 have N3 := Fr.app N0 M3
 refine Run.x_icmpNo (q := 14) X3 hx (hb hby d23_11) (tlt hip).2.1 rfl ?_
 refine Run.x_aloadN (q := 15) X3 hx (hb hby d23_14) rfl rfl rfl ?_
 refine Run.z_getF (q := 18) X3 hx hZ e3 hown (wm42 hw) F_this_text (hb hby d23_15) rfl fun T4 X4 e4 => ?_
 refine Run.x_aloadN (q := 19) X4 hx (hb hby d23_18) rfl rfl rfl ?_
 refine Run.z_getF (q := 22) X4 hx hZ e4 hown (wm51 hw) F_this_position (hb hby d23_19) rfl fun T5 X5 e5 => ?_
 refine Run.callVI (q := 25) X5 hx hZ e5 (y := (⟨"java/lang/String", "charAt", "(I)C"⟩ : MethodName)) (z := (⟨"java/lang/String", "charAt", "(I)C"⟩ : MethodName)) hown (wm62 hw) (wm63 hw) (notFace_of_selects (args := #[]) (mvT hZ (wm65 hw))) (wm65 hw) (wm64 hw) (wm8 hw) (wm66 hw) (by decide) (a := str) E_str (argsL := [(.int i)]) (rest := []) (c_cha0 l Z a0 hw str i h0 n0 Z0 cp bts vs ln sf ii x z E_str F_str_coder F_str_value A_bts S_COMPACT_STRINGS S_SIOOBE_FORMATTER hcp hsf hln hi hv h1 h2 hz hnz) pd_16 rfl (by rw [hml]; rfl) (W := 0) rfl (by decide) (by decide) (by decide) (by decide) (hb hby d23_22) rfl rfl fun T6 L6 X6 M6 e6 => ?_
 have N6 := Fr.app N3 M6
 refine Run.x_iloadN (q := 26) X6 hx (hb hby d23_25) rfl rfl ?_
 by_cases hc26 : z = w
 ·skip
  refine Run.x_icmpNo (q := 29) X6 hx (hb hby d23_26) (teq hc26).2 rfl ?_
  refine Run.x_iconst (q := 30) X6 hx (hb hby d23_29) (z := (1 : Int32)) rfl rfl ?_
  refine Run.x_goto (q := 34) X6 hx (hb hby d23_30) (by decide) (by decide) ?_
  refine Run.retN X6 hx hlk e6 (t := .boolean) hret (by simp) (z' := (1 : Int32)) (by decide) (hb hby d23_34) (by decide) (by decide) ?_
  exact PureI.mk (by exact (own_b1 hc26).symm) N6
 ·skip
  refine Run.x_icmpYes (q := 33) X6 hx (hb hby d23_26) (feq hc26).2 (by decide) (by decide) ?_
  refine Run.x_iconst (q := 34) X6 hx (hb hby d23_33) (z := (0 : Int32)) rfl rfl ?_
  refine Run.retN X6 hx hlk e6 (t := .boolean) hret (by simp) (z' := (0 : Int32)) (by decide) (hb hby d23_34) (by decide) (by decide) ?_
  exact PureI.mk (by exact (own_b0 hc26).symm) N6
theorem ef_c_atg1 (m : MethodId) (this : Addr) (w : Int32) : entryFrame m #[(.ref this), (.int w)] 2 = mkF m 0 #[.val (.ref this), .val (.int w)] [] := by first | (simp [entryFrame, mkF, argsToLocals, Value.category]; done) | rfl
set_option maxRecDepth 65536 in
set_option maxHeartbeats 40000000 in
theorem c_atg1 (l : Launch) (Z : State) (a0 : Array Value) (hw : ∀ d ∈ tables_1, d.before a0 Z = true) (this : Addr) (w : Int32) (h0 : Heap) (n0 : Nat) (Z0 : n0 ≤ h0.size) (i : Int32) (nn : Int32) (str : Addr) (cp : Int32) (bts : Addr) (vs : List Value) (ln : Int32) (E_this : Exa Z h0 this "com/example/sayso/sayso/TextCursor") (F_this_position : Fld Z h0 this "com/example/sayso/sayso/TextCursor" "position" "I" (.int i)) (F_this_text : Fld Z h0 this "com/example/sayso/sayso/TextCursor" "text" "Ljava/lang/String;" (.ref str)) (E_str : Exa Z h0 str "java/lang/String") (F_str_coder : Fld Z h0 str "java/lang/String" "coder" "B" (.int 1)) (F_str_value : Fld Z h0 str "java/lang/String" "value" "[B" (.ref bts)) (A_bts : Ars Z h0 bts .byte vs) (S_COMPACT_STRINGS : Sta Z h0 "java/lang/String" "COMPACT_STRINGS" "Z" (.int cp)) (hcp : ¬ cp = (0 : Int32)) (hln : vs.length.toInt32 = ln) (hlz : ln >>> ((1 : Int32) &&& 31) = nn) (hip : ¬ i < nn) :
  Ctr l Z (⟨"com/example/sayso/sayso/TextCursor", "at", "(C)Z"⟩ : MethodName) prog_91_method_8_code 2 (some .boolean) ({ frames := 2, cells := 0, slots := 0, locals := 26 } : Room) #[(.ref this), (.int w)] h0 (PureI h0 n0 (0 : Int32)) := by
 refine Ctr.of (plainFor_of_name pn_5) (fun m => ef_c_atg1 m this w) ?_
 intro p e s m below meth c T0 hx hby hml hown hnm hret hlk hZ e0 X0
 have N0 := Fr.nil n0
 replace hown : s.vm.findClass "com/example/sayso/sayso/TextCursor" = some m.cls := hown
 replace hml : c.maxLocals = 2 := hml
 refine Run.x_aloadN (q := 1) X0 hx (hb hby d23_0) rfl rfl rfl ?_
 refine Run.z_getF (q := 4) X0 hx hZ e0 hown (wm51 hw) F_this_position (hb hby d23_1) rfl fun T1 X1 e1 => ?_
 refine Run.x_aloadN (q := 5) X1 hx (hb hby d23_4) rfl rfl rfl ?_
 refine Run.z_getF (q := 8) X1 hx hZ e1 hown (wm42 hw) F_this_text (hb hby d23_5) rfl fun T2 X2 e2 => ?_
 refine Run.callVI (q := 11) X2 hx hZ e2 (y := (⟨"java/lang/String", "length", "()I"⟩ : MethodName)) (z := (⟨"java/lang/String", "length", "()I"⟩ : MethodName)) hown (wm52 hw) (wm53 hw) (notFace_of_selects (args := #[]) (mvT hZ (wm55 hw))) (wm55 hw) (wm54 hw) (wm8 hw) (wm56 hw) (by decide) (a := str) E_str (argsL := []) (rest := [(.int i)]) (c_len1 l Z a0 hw str h0 n0 Z0 cp bts nn vs ln E_str F_str_coder F_str_value A_bts S_COMPACT_STRINGS hcp hln hlz) pd_15 rfl (by rw [hml]; rfl) (W := 1) rfl (by decide) (by decide) (by decide) (by decide) (hb hby d23_8) rfl rfl fun T3 L3 X3 M3 e3 => ?_
 have N3 := Fr.app N0 M3
 refine Run.x_icmpYes (q := 33) X3 hx (hb hby d23_11) (flt hip).2.1 (by decide) (by decide) ?_
 refine Run.x_iconst (q := 34) X3 hx (hb hby d23_33) (z := (0 : Int32)) rfl rfl ?_
 refine Run.retN X3 hx hlk e3 (t := .boolean) hret (by simp) (z' := (0 : Int32)) (by decide) (hb hby d23_34) (by decide) (by decide) ?_
 exact PureI.mk (by rfl) N3
theorem ef_c_atl1 (m : MethodId) (this : Addr) (w : Int32) : entryFrame m #[(.ref this), (.int w)] 2 = mkF m 0 #[.val (.ref this), .val (.int w)] [] := by first | (simp [entryFrame, mkF, argsToLocals, Value.category]; done) | rfl
set_option maxRecDepth 65536 in
set_option maxHeartbeats 40000000 in
theorem c_atl1 (l : Launch) (Z : State) (a0 : Array Value) (hw : ∀ d ∈ tables_1, d.before a0 Z = true) (this : Addr) (w : Int32) (h0 : Heap) (n0 : Nat) (Z0 : n0 ≤ h0.size) (i : Int32) (nn : Int32) (str : Addr) (cp : Int32) (bts : Addr) (vs : List Value) (ln : Int32) (sf : Value) (l2 : Int32) (jj : Nat) (x0 : Int32) (x1 : Int32) (z : Int32) (E_this : Exa Z h0 this "com/example/sayso/sayso/TextCursor") (F_this_position : Fld Z h0 this "com/example/sayso/sayso/TextCursor" "position" "I" (.int i)) (F_this_text : Fld Z h0 this "com/example/sayso/sayso/TextCursor" "text" "Ljava/lang/String;" (.ref str)) (E_str : Exa Z h0 str "java/lang/String") (F_str_coder : Fld Z h0 str "java/lang/String" "coder" "B" (.int 1)) (F_str_value : Fld Z h0 str "java/lang/String" "value" "[B" (.ref bts)) (A_bts : Ars Z h0 bts .byte vs) (S_COMPACT_STRINGS : Sta Z h0 "java/lang/String" "COMPACT_STRINGS" "Z" (.int cp)) (S_SIOOBE_FORMATTER : Sta Z h0 "jdk/internal/util/Preconditions" "SIOOBE_FORMATTER" "Ljava/util/function/BiFunction;" sf) (S__assertionsDisabled : Sta Z h0 "java/lang/StringUTF16" "$assertionsDisabled" "Z" (.int 1)) (S_HI_BYTE_SHIFT : Sta Z h0 "java/lang/StringUTF16" "HI_BYTE_SHIFT" "I" (.int 0)) (S_LO_BYTE_SHIFT : Sta Z h0 "java/lang/StringUTF16" "LO_BYTE_SHIFT" "I" (.int 8)) (hcp : ¬ cp = (0 : Int32)) (hlz : ln >>> ((1 : Int32) &&& 31) = nn) (hip : i < nn) (hsf : sf.isRef = true) (hln : vs.length.toInt32 = ln) (hl2 : ln >>> ((1 : Int32) &&& 31) = l2) (h1 : ¬ i < (0 : Int32)) (h2 : i < l2) (hj0 : (i <<< ((1 : Int32) &&& 31)).toInt = jj) (hj1 : ((i <<< ((1 : Int32) &&& 31)) + (1 : Int32)).toInt = (jj + 1 : Nat)) (hv0 : vs[jj]? = some (.int x0)) (hv1 : vs[jj + 1]? = some (.int x1)) (hz : ((x0 &&& (255 : Int32)) <<< ((0 : Int32) &&& 31) ||| (x1 &&& (255 : Int32)) <<< ((8 : Int32) &&& 31)).toUInt32.toUInt16.toUInt32.toInt32 = z) (hnz : nar .char z = z) :
  Ctr l Z (⟨"com/example/sayso/sayso/TextCursor", "at", "(C)Z"⟩ : MethodName) prog_91_method_8_code 2 (some .boolean) ({ frames := 5, cells := 0, slots := 0, locals := 66 } : Room) #[(.ref this), (.int w)] h0 (PureI h0 n0 (own_b (z = w))) := by
 refine Ctr.of (plainFor_of_name pn_5) (fun m => ef_c_atl1 m this w) ?_
 intro p e s m below meth c T0 hx hby hml hown hnm hret hlk hZ e0 X0
 have N0 := Fr.nil n0
 replace hown : s.vm.findClass "com/example/sayso/sayso/TextCursor" = some m.cls := hown
 replace hml : c.maxLocals = 2 := hml
 refine Run.x_aloadN (q := 1) X0 hx (hb hby d23_0) rfl rfl rfl ?_
 refine Run.z_getF (q := 4) X0 hx hZ e0 hown (wm51 hw) F_this_position (hb hby d23_1) rfl fun T1 X1 e1 => ?_
 refine Run.x_aloadN (q := 5) X1 hx (hb hby d23_4) rfl rfl rfl ?_
 refine Run.z_getF (q := 8) X1 hx hZ e1 hown (wm42 hw) F_this_text (hb hby d23_5) rfl fun T2 X2 e2 => ?_
 refine Run.callVI (q := 11) X2 hx hZ e2 (y := (⟨"java/lang/String", "length", "()I"⟩ : MethodName)) (z := (⟨"java/lang/String", "length", "()I"⟩ : MethodName)) hown (wm52 hw) (wm53 hw) (notFace_of_selects (args := #[]) (mvT hZ (wm55 hw))) (wm55 hw) (wm54 hw) (wm8 hw) (wm56 hw) (by decide) (a := str) E_str (argsL := []) (rest := [(.int i)]) (c_len1 l Z a0 hw str h0 n0 Z0 cp bts nn vs ln E_str F_str_coder F_str_value A_bts S_COMPACT_STRINGS hcp hln hlz) pd_15 rfl (by rw [hml]; rfl) (W := 1) rfl (by decide) (by decide) (by decide) (by decide) (hb hby d23_8) rfl rfl fun T3 L3 X3 M3 e3 => ?_
 have N3 := Fr.app N0 M3
 refine Run.x_icmpNo (q := 14) X3 hx (hb hby d23_11) (tlt hip).2.1 rfl ?_
 refine Run.x_aloadN (q := 15) X3 hx (hb hby d23_14) rfl rfl rfl ?_
 refine Run.z_getF (q := 18) X3 hx hZ e3 hown (wm42 hw) F_this_text (hb hby d23_15) rfl fun T4 X4 e4 => ?_
 refine Run.x_aloadN (q := 19) X4 hx (hb hby d23_18) rfl rfl rfl ?_
 refine Run.z_getF (q := 22) X4 hx hZ e4 hown (wm51 hw) F_this_position (hb hby d23_19) rfl fun T5 X5 e5 => ?_
 refine Run.callVI (q := 25) X5 hx hZ e5 (y := (⟨"java/lang/String", "charAt", "(I)C"⟩ : MethodName)) (z := (⟨"java/lang/String", "charAt", "(I)C"⟩ : MethodName)) hown (wm62 hw) (wm63 hw) (notFace_of_selects (args := #[]) (mvT hZ (wm65 hw))) (wm65 hw) (wm64 hw) (wm8 hw) (wm66 hw) (by decide) (a := str) E_str (argsL := [(.int i)]) (rest := []) (c_cha1 l Z a0 hw str i h0 n0 Z0 cp bts vs ln sf l2 jj x0 x1 z E_str F_str_coder F_str_value A_bts S_COMPACT_STRINGS S_SIOOBE_FORMATTER S__assertionsDisabled S_HI_BYTE_SHIFT S_LO_BYTE_SHIFT hcp hsf hln hl2 h1 h2 hj0 hj1 hv0 hv1 hz hnz) pd_16 rfl (by rw [hml]; rfl) (W := 0) rfl (by decide) (by decide) (by decide) (by decide) (hb hby d23_22) rfl rfl fun T6 L6 X6 M6 e6 => ?_
 have N6 := Fr.app N3 M6
 refine Run.x_iloadN (q := 26) X6 hx (hb hby d23_25) rfl rfl ?_
 by_cases hc26 : z = w
 ·skip
  refine Run.x_icmpNo (q := 29) X6 hx (hb hby d23_26) (teq hc26).2 rfl ?_
  refine Run.x_iconst (q := 30) X6 hx (hb hby d23_29) (z := (1 : Int32)) rfl rfl ?_
  refine Run.x_goto (q := 34) X6 hx (hb hby d23_30) (by decide) (by decide) ?_
  refine Run.retN X6 hx hlk e6 (t := .boolean) hret (by simp) (z' := (1 : Int32)) (by decide) (hb hby d23_34) (by decide) (by decide) ?_
  exact PureI.mk (by exact (own_b1 hc26).symm) N6
 ·skip
  refine Run.x_icmpYes (q := 33) X6 hx (hb hby d23_26) (feq hc26).2 (by decide) (by decide) ?_
  refine Run.x_iconst (q := 34) X6 hx (hb hby d23_33) (z := (0 : Int32)) rfl rfl ?_
  refine Run.retN X6 hx hlk e6 (t := .boolean) hret (by simp) (z' := (0 : Int32)) (by decide) (hb hby d23_34) (by decide) (by decide) ?_
  exact PureI.mk (by exact (own_b0 hc26).symm) N6
theorem ef_c_law (m : MethodId) (p1 : Int32) (p2 : Int32) (p3 : Int32) (p4 : Int32) (p5 : Int32) (p6 : Int32) : entryFrame m #[(.int p1), (.int p2), (.int p3), (.int p4), (.int p5), (.int p6)] maxLocals = mkF m 0 #[.val (.int p1), .val (.int p2), .val (.int p3), .val (.int p4), .val (.int p5), .val (.int p6), .unset, .unset, .unset, .unset, .unset, .unset, .unset, .unset, .unset, .unset, .unset, .unset] [] := by first | (simp [entryFrame, mkF, argsToLocals, Value.category, maxLocals]; done) | rfl
theorem wm1 {a0 : Array Value} {Z : State} (hw : ∀ d ∈ tables_1, d.before a0 Z = true) : (Jvm.Cond.constant "com/example/sayso/sayso/TextCursorAtPinLaw" (12 : Nat) (2147483647 : Int32)).before a0 Z = true := hw _ (List.mem_of_getElem? (i := 1) rfl)
theorem wm2 {a0 : Array Value} {Z : State} (hw : ∀ d ∈ tables_1, d.before a0 Z = true) : (Jvm.Cond.methodLink "com/example/sayso/sayso/TextCursorAtPinLaw" (13 : Nat) ({ cls := "com/example/sayso/sayso/TextCursorAtPinLaw", name := "make", desc := "(ICCC)Ljava/lang/String;" } : Jvm.MethodName)).before a0 Z = true := hw _ (List.mem_of_getElem? (i := 2) rfl)
theorem wm5 {a0 : Array Value} {Z : State} (hw : ∀ d ∈ tables_1, d.before a0 Z = true) : (Jvm.Cond.code ({ cls := "com/example/sayso/sayso/TextCursorAtPinLaw", name := "make", desc := "(ICCC)Ljava/lang/String;" } : Jvm.MethodName) method_2_code (4 : Nat) (Option.some (Jvm.ClassFile.FieldType.object "java/lang/String"))).before a0 Z = true := hw _ (List.mem_of_getElem? (i := 5) rfl)
theorem pd_17 : parseMethodDescriptor "(ICCC)Ljava/lang/String;" = some ⟨[.int, .char, .char, .char], some (.object "java/lang/String")⟩ := by decide +kernel
theorem wm3 {a0 : Array Value} {Z : State} (hw : ∀ d ∈ tables_1, d.before a0 Z = true) : (Jvm.Cond.static ({ cls := "com/example/sayso/sayso/TextCursorAtPinLaw", name := "make", desc := "(ICCC)Ljava/lang/String;" } : Jvm.MethodName)).before a0 Z = true := hw _ (List.mem_of_getElem? (i := 3) rfl)
theorem wm4 {a0 : Array Value} {Z : State} (hw : ∀ d ∈ tables_1, d.before a0 Z = true) : (Jvm.Cond.initialized "com/example/sayso/sayso/TextCursorAtPinLaw").before a0 Z = true := hw _ (List.mem_of_getElem? (i := 4) rfl)
theorem wm35 {a0 : Array Value} {Z : State} (hw : ∀ d ∈ tables_1, d.before a0 Z = true) : (Jvm.Cond.classLink "com/example/sayso/sayso/TextCursorAtPinLaw" (19 : Nat) "com/example/sayso/sayso/TextCursor").before a0 Z = true := hw _ (List.mem_of_getElem? (i := 35) rfl)
theorem wm37 {a0 : Array Value} {Z : State} (hw : ∀ d ∈ tables_1, d.before a0 Z = true) : (Jvm.Cond.initialized "com/example/sayso/sayso/TextCursor").before a0 Z = true := hw _ (List.mem_of_getElem? (i := 37) rfl)
theorem wm38 {a0 : Array Value} {Z : State} (hw : ∀ d ∈ tables_1, d.before a0 Z = true) : (Jvm.Cond.methodLink "com/example/sayso/sayso/TextCursorAtPinLaw" (21 : Nat) ({ cls := "com/example/sayso/sayso/TextCursor", name := "<init>", desc := "(Ljava/lang/String;)V" } : Jvm.MethodName)).before a0 Z = true := hw _ (List.mem_of_getElem? (i := 38) rfl)
theorem wm40 {a0 : Array Value} {Z : State} (hw : ∀ d ∈ tables_1, d.before a0 Z = true) : (Jvm.Cond.code ({ cls := "com/example/sayso/sayso/TextCursor", name := "<init>", desc := "(Ljava/lang/String;)V" } : Jvm.MethodName) prog_91_method_1_code (2 : Nat) (Option.none : Option Jvm.ClassFile.FieldType)).before a0 Z = true := hw _ (List.mem_of_getElem? (i := 40) rfl)
theorem pd_18 : parseMethodDescriptor "(Ljava/lang/String;)V" = some ⟨[(.object "java/lang/String")], none⟩ := by decide +kernel
theorem wm39 {a0 : Array Value} {Z : State} (hw : ∀ d ∈ tables_1, d.before a0 Z = true) : (Jvm.Cond.instanceMethod ({ cls := "com/example/sayso/sayso/TextCursor", name := "<init>", desc := "(Ljava/lang/String;)V" } : Jvm.MethodName)).before a0 Z = true := hw _ (List.mem_of_getElem? (i := 39) rfl)
theorem wm44 {a0 : Array Value} {Z : State} (hw : ∀ d ∈ tables_1, d.before a0 Z = true) : (Jvm.Cond.fieldLink "com/example/sayso/sayso/TextCursorAtPinLaw" (24 : Nat) "com/example/sayso/sayso/TextCursor" "position" "I").before a0 Z = true := hw _ (List.mem_of_getElem? (i := 44) rfl)
theorem wm46 {a0 : Array Value} {Z : State} (hw : ∀ d ∈ tables_1, d.before a0 Z = true) : (Jvm.Cond.methodLink "com/example/sayso/sayso/TextCursorAtPinLaw" (28 : Nat) ({ cls := "com/example/sayso/sayso/TextCursor", name := "at", desc := "(C)Z" } : Jvm.MethodName)).before a0 Z = true := hw _ (List.mem_of_getElem? (i := 46) rfl)
theorem wm50 {a0 : Array Value} {Z : State} (hw : ∀ d ∈ tables_1, d.before a0 Z = true) : (Jvm.Cond.code ({ cls := "com/example/sayso/sayso/TextCursor", name := "at", desc := "(C)Z" } : Jvm.MethodName) prog_91_method_8_code (2 : Nat) (Option.some Jvm.ClassFile.FieldType.boolean)).before a0 Z = true := hw _ (List.mem_of_getElem? (i := 50) rfl)
theorem pd_19 : parseMethodDescriptor "(C)Z" = some ⟨[.char], some .boolean⟩ := by decide +kernel
theorem wm49 {a0 : Array Value} {Z : State} (hw : ∀ d ∈ tables_1, d.before a0 Z = true) : (Jvm.Cond.selects "com/example/sayso/sayso/TextCursor" ({ cls := "com/example/sayso/sayso/TextCursor", name := "at", desc := "(C)Z" } : Jvm.MethodName) ({ cls := "com/example/sayso/sayso/TextCursor", name := "at", desc := "(C)Z" } : Jvm.MethodName)).before a0 Z = true := hw _ (List.mem_of_getElem? (i := 49) rfl)
theorem wm47 {a0 : Array Value} {Z : State} (hw : ∀ d ∈ tables_1, d.before a0 Z = true) : (Jvm.Cond.declares ({ cls := "com/example/sayso/sayso/TextCursor", name := "at", desc := "(C)Z" } : Jvm.MethodName)).before a0 Z = true := hw _ (List.mem_of_getElem? (i := 47) rfl)
theorem wm48 {a0 : Array Value} {Z : State} (hw : ∀ d ∈ tables_1, d.before a0 Z = true) : (Jvm.Cond.instanceMethod ({ cls := "com/example/sayso/sayso/TextCursor", name := "at", desc := "(C)Z" } : Jvm.MethodName)).before a0 Z = true := hw _ (List.mem_of_getElem? (i := 48) rfl)
theorem wm84 {a0 : Array Value} {Z : State} (hw : ∀ d ∈ tables_1, d.before a0 Z = true) : (Jvm.Cond.fieldLink "com/example/sayso/sayso/TextCursorAtPinLaw" (32 : Nat) "com/example/sayso/sayso/TextCursor" "text" "Ljava/lang/String;").before a0 Z = true := hw _ (List.mem_of_getElem? (i := 84) rfl)
set_option maxRecDepth 65536 in
set_option maxHeartbeats 40000000 in
theorem c_law (l : Launch) (Z : State) (a0 : Array Value) (hw : ∀ d ∈ tables_1, d.before a0 Z = true) (p1 : Int32) (p2 : Int32) (p3 : Int32) (p4 : Int32) (p5 : Int32) (p6 : Int32) (h0 : Heap) (n0 : Nat) (Z0 : n0 ≤ h0.size) (cp : Int32) (sf : Value) (S_COMPACT_STRINGS : Sta Z h0 "java/lang/String" "COMPACT_STRINGS" "Z" (.int cp)) (S_SIOOBE_FORMATTER : Sta Z h0 "jdk/internal/util/Preconditions" "SIOOBE_FORMATTER" "Ljava/util/function/BiFunction;" sf) (S__assertionsDisabled : Sta Z h0 "java/lang/StringUTF16" "$assertionsDisabled" "Z" (.int 1)) (S_HI_BYTE_SHIFT : Sta Z h0 "java/lang/StringUTF16" "HI_BYTE_SHIFT" "I" (.int 0)) (S_LO_BYTE_SHIFT : Sta Z h0 "java/lang/StringUTF16" "LO_BYTE_SHIFT" "I" (.int 8)) (hcp : ¬ cp = (0 : Int32)) (hsf : sf.isRef = true) (hkeep : ∀ (b : Addr) (cl : Cell), Z.heap[b]? = some cl → h0[b]? = some cl) (hh : Jvm.Lit.constHeld Z "java/lang/String" 7) (hcw : Jvm.Lit.compactW.before a0 Z = true) :
  CtrW l Z x code maxLocals ret room_1 #[(.int p1), (.int p2), (.int p3), (.int p4), (.int p5), (.int p6)] h0 (Tru n0) := by
 refine CtrW.of (plainFor_of_name pn_4) (fun m => ef_c_law m p1 p2 p3 p4 p5 p6) ?_
 intro p e s m below meth c T0 hx hby hml hown hnm hret hlk hZ e0 X0 hI es0
 have N0 := Fr.nil n0
 replace hown : s.vm.findClass "com/example/sayso/sayso/TextCursorAtPinLaw" = some m.cls := hown
 replace hml : c.maxLocals = 18 := hml
 have KP := Keep.refl h0 []
 refine Run.x_iloadN (q := 1) X0 hx (hb hby at_0) rfl rfl ?_
 refine Run.x_i2c (q := 2) X0 hx (hb hby at_1) rfl rfl ?_
 refine Run.x_istore (q := 4) X0 hx #[.val (.int p1), .val (.int p2), .val (.int p3), .val (.int p4), .val (.int p5), .val (.int p6), .val (.int p1.toUInt32.toUInt16.toUInt32.toInt32), .unset, .unset, .unset, .unset, .unset, .unset, .unset, .unset, .unset, .unset, .unset] (hb hby at_2) rfl rfl ?_
 generalize hk0 : p1.toUInt32.toUInt16.toUInt32.toInt32 = k0
 refine Run.x_iloadN (q := 5) X0 hx (hb hby at_4) rfl rfl ?_
 refine Run.x_bipush (q := 7) X0 hx (hb hby at_5) (z := (16 : Int32)) rfl rfl ?_
 refine Run.x_iushr (q := 8) X0 hx (hb hby at_7) rfl rfl ?_
 refine Run.x_i2c (q := 9) X0 hx (hb hby at_8) rfl rfl ?_
 refine Run.x_istore (q := 11) X0 hx #[.val (.int p1), .val (.int p2), .val (.int p3), .val (.int p4), .val (.int p5), .val (.int p6), .val (.int k0), .val (.int ((p1.toUInt32 >>> ((16 : Int32) &&& 31).toUInt32).toInt32).toUInt32.toUInt16.toUInt32.toInt32), .unset, .unset, .unset, .unset, .unset, .unset, .unset, .unset, .unset, .unset] (hb hby at_9) rfl rfl ?_
 generalize hk1 : ((p1.toUInt32 >>> ((16 : Int32) &&& 31).toUInt32).toInt32).toUInt32.toUInt16.toUInt32.toInt32 = k1
 refine Run.x_iloadN (q := 12) X0 hx (hb hby at_11) rfl rfl ?_
 refine Run.x_i2c (q := 13) X0 hx (hb hby at_12) rfl rfl ?_
 refine Run.x_istore (q := 15) X0 hx #[.val (.int p1), .val (.int p2), .val (.int p3), .val (.int p4), .val (.int p5), .val (.int p6), .val (.int k0), .val (.int k1), .val (.int p2.toUInt32.toUInt16.toUInt32.toInt32), .unset, .unset, .unset, .unset, .unset, .unset, .unset, .unset, .unset] (hb hby at_13) rfl rfl ?_
 generalize hk2 : p2.toUInt32.toUInt16.toUInt32.toInt32 = k2
 have rk0 := own_rg hk0
 have rk1 := own_rg hk1
 have rk2 := own_rg hk2
 refine Run.x_iconst (q := 16) X0 hx (hb hby at_15) (z := (3 : Int32)) rfl rfl ?_
 refine Run.newP (aty := .char) X0 hx hZ e0 (wm0 hw) (hb hby at_16) (len := 3) (by decide) (by decide) (cap := 3) (by decide) (by decide) (by decide) (by decide) ?_
 intro T1 h1 b1 gg1 X1 e1 E1 A_b1
 have g_b1 : n0 ≤ b1 := Nat.le_trans Z0 (Nat.le_of_eq gg1.symm)
 have sz_b1 : h0.size ≤ b1 := Nat.le_trans KP.1 (Nat.le_of_eq gg1.symm)
 have Z1 : n0 ≤ h1.size := Nat.le_trans Z0 E1.1
 replace KP := KP.ext E1
 replace A_b1 : Ars Z h1 b1 .char [(.int 0), (.int 0), (.int 0)] := A_b1
 show Run p e below s _ _ _ (T1.setTop (mkF m 18 #[.val (.int p1), .val (.int p2), .val (.int p3), .val (.int p4), .val (.int p5), .val (.int p6), .val (.int k0), .val (.int k1), .val (.int k2), .unset, .unset, .unset, .unset, .unset, .unset, .unset, .unset, .unset] [(.ref b1)]))
 refine Run.x_dup (q := 19) X1 hx (hb hby at_18) rfl rfl ?_
 refine Run.x_iconst (q := 20) X1 hx (hb hby at_19) (z := (0 : Int32)) rfl rfl ?_
 refine Run.x_iload (q := 22) X1 hx (hb hby at_20) rfl rfl ?_
 refine Run.y_stC (q := 23) X1 hx hZ e1 A_b1 (i := 0) (by decide) (Nat.le_of_ble_eq_true rfl) (z' := k0) (own_nr rk0) (hb hby at_22) rfl fun T2 h2 X2 e2 W2 A2 => ?_
 replace A_b1 : Ars Z h2 b1 .char [(.int k0), (.int 0), (.int 0)] := A2
 replace KP := KP.wr W2 (Or.inr sz_b1)
 have N2 := Fr.snoc X2 N0 g_b1
 have Z2 : n0 ≤ h2.size := Nat.le_trans Z1 (Nat.le_of_eq W2.size.symm)
 refine Run.x_dup (q := 24) X2 hx (hb hby at_23) rfl rfl ?_
 refine Run.x_iconst (q := 25) X2 hx (hb hby at_24) (z := (1 : Int32)) rfl rfl ?_
 refine Run.x_iload (q := 27) X2 hx (hb hby at_25) rfl rfl ?_
 refine Run.y_stC (q := 28) X2 hx hZ e2 A_b1 (i := 1) (by decide) (Nat.le_of_ble_eq_true rfl) (z' := k1) (own_nr rk1) (hb hby at_27) rfl fun T3 h3 X3 e3 W3 A3 => ?_
 replace A_b1 : Ars Z h3 b1 .char [(.int k0), (.int k1), (.int 0)] := A3
 replace KP := KP.wr W3 (Or.inr sz_b1)
 have N3 := Fr.snoc X3 N2 g_b1
 have Z3 : n0 ≤ h3.size := Nat.le_trans Z2 (Nat.le_of_eq W3.size.symm)
 refine Run.x_dup (q := 29) X3 hx (hb hby at_28) rfl rfl ?_
 refine Run.x_iconst (q := 30) X3 hx (hb hby at_29) (z := (2 : Int32)) rfl rfl ?_
 refine Run.x_iload (q := 32) X3 hx (hb hby at_30) rfl rfl ?_
 refine Run.y_stC (q := 33) X3 hx hZ e3 A_b1 (i := 2) (by decide) (Nat.le_of_ble_eq_true rfl) (z' := k2) (own_nr rk2) (hb hby at_32) rfl fun T4 h4 X4 e4 W4 A4 => ?_
 replace A_b1 : Ars Z h4 b1 .char [(.int k0), (.int k1), (.int k2)] := A4
 replace KP := KP.wr W4 (Or.inr sz_b1)
 have N4 := Fr.snoc X4 N3 g_b1
 have Z4 : n0 ≤ h4.size := Nat.le_trans Z3 (Nat.le_of_eq W4.size.symm)
 refine Run.x_astore (q := 35) X4 hx #[.val (.int p1), .val (.int p2), .val (.int p3), .val (.int p4), .val (.int p5), .val (.int p6), .val (.int k0), .val (.int k1), .val (.int k2), .val (.ref b1), .unset, .unset, .unset, .unset, .unset, .unset, .unset, .unset] (hb hby at_33) rfl rfl rfl ?_
 refine Run.x_iloadN (q := 36) X4 hx (hb hby at_35) rfl rfl ?_
 refine Run.x_iconst (q := 37) X4 hx (hb hby at_36) (z := (3 : Int32)) rfl rfl ?_
 refine Run.x_iand (q := 38) X4 hx (hb hby at_37) rfl rfl ?_
 refine Run.x_istore (q := 40) X4 hx #[.val (.int p1), .val (.int p2), .val (.int p3), .val (.int p4), .val (.int p5), .val (.int p6), .val (.int k0), .val (.int k1), .val (.int k2), .val (.ref b1), .val (.int (p3 &&& (3 : Int32))), .unset, .unset, .unset, .unset, .unset, .unset, .unset] (hb hby at_38) rfl rfl ?_
 generalize hnn : (p3 &&& (3 : Int32)) = nn
 refine Run.x_iload (q := 42) X4 hx (hb hby at_40) rfl rfl ?_
 refine Run.x_iconst (q := 43) X4 hx (hb hby at_42) (z := (3 : Int32)) rfl rfl ?_
 refine Run.x_icmpYes (q := 49) X4 hx (hb hby at_43) (flt (own_le3 hnn)).2.2.2 (by decide) (by decide) ?_
 refine Run.x_iloadN (q := 50) X4 hx (hb hby at_49) rfl rfl ?_
 refine Run.st (B := T4.setTop (mkF m 52 #[.val (.int p1), .val (.int p2), .val (.int p3), .val (.int p4), .val (.int p5), .val (.int p6), .val (.int k0), .val (.int k1), .val (.int k2), .val (.ref b1), .val (.int nn), .unset, .unset, .unset, .unset, .unset, .unset, .unset] [(.int 2147483647), (.int p4)])) (fun t kt => X4.ldcInt hx hown (mvT hZ (wm1 hw)) (g := (mkF m 50 #[.val (.int p1), .val (.int p2), .val (.int p3), .val (.int p4), .val (.int p5), .val (.int p6), .val (.int k0), .val (.int k1), .val (.int k2), .val (.ref b1), .val (.int nn), .unset, .unset, .unset, .unset, .unset, .unset, .unset] [(.int p4)])) rfl (hb hby at_50) _ kt) ?_
 refine Run.x_iand (q := 53) X4 hx (hb hby at_52) rfl rfl ?_
 refine Run.x_iload (q := 55) X4 hx (hb hby at_53) rfl rfl ?_
 refine Run.x_iconst (q := 56) X4 hx (hb hby at_55) (z := (1 : Int32)) rfl rfl ?_
 refine Run.x_iadd (q := 57) X4 hx (hb hby at_56) rfl rfl ?_
 refine Run.x_irem (q := 58) X4 hx (hb hby at_57) (own_nz hnn) rfl rfl ?_
 refine Run.x_istore (q := 60) X4 hx #[.val (.int p1), .val (.int p2), .val (.int p3), .val (.int p4), .val (.int p5), .val (.int p6), .val (.int k0), .val (.int k1), .val (.int k2), .val (.ref b1), .val (.int nn), .val (.int ((p4 &&& (2147483647 : Int32)) % (nn + (1 : Int32)))), .unset, .unset, .unset, .unset, .unset, .unset] (hb hby at_58) rfl rfl ?_
 generalize hpp : ((p4 &&& (2147483647 : Int32)) % (nn + (1 : Int32))) = pp
 have J96 : ∀ (z12 : Slot) (wd : Int32), Run (bb := false) p e below s (Tru n0) room_1.cells room_1.slots (T4.setTop (mkF m 96 #[.val (.int p1), .val (.int p2), .val (.int p3), .val (.int p4), .val (.int p5), .val (.int p6), .val (.int k0), .val (.int k1), .val (.int k2), .val (.ref b1), .val (.int nn), .val (.int pp), z12, .val (.int wd), .unset, .unset, .unset, .unset] [])) := by
  intro z12 wd
  rcases own_3 hnn with rfl | rfl | rfl | rfl
  ·skip
   show Run p e below s _ _ _ (T4.setTop (mkF m 96 #[.val (.int p1), .val (.int p2), .val (.int p3), .val (.int p4), .val (.int p5), .val (.int p6), .val (.int k0), .val (.int k1), .val (.int k2), .val (.ref b1), .val (.int 0), .val (.int pp), z12, .val (.int wd), .unset, .unset, .unset, .unset] []))
   rcases own_s0 hpp with rfl
   ·skip
    show Run p e below s _ _ _ (T4.setTop (mkF m 96 #[.val (.int p1), .val (.int p2), .val (.int p3), .val (.int p4), .val (.int p5), .val (.int p6), .val (.int k0), .val (.int k1), .val (.int k2), .val (.ref b1), .val (.int 0), .val (.int 0), z12, .val (.int wd), .unset, .unset, .unset, .unset] []))
    refine Run.x_iload (q := 98) X4 hx (hb hby at_96) rfl rfl ?_
    refine Run.x_iload (q := 100) X4 hx (hb hby at_98) rfl rfl ?_
    refine Run.x_iload (q := 102) X4 hx (hb hby at_100) rfl rfl ?_
    refine Run.x_iload (q := 104) X4 hx (hb hby at_102) rfl rfl ?_
    refine Run.callSW X4 hx hZ hI e4 (y := (⟨"com/example/sayso/sayso/TextCursorAtPinLaw", "make", "(ICCC)Ljava/lang/String;"⟩ : MethodName)) hown (wm2 hw) (wm3 hw) (wm4 hw) (wm5 hw) (by decide) (argsL := [(.int 0), (.int k0), (.int k1), (.int k2)]) (rest := []) (c_mk_0 l Z a0 hw k0 k1 k2 h4 n0 Z4 (fun b cl q => KP.2.1 b cl (hkeep b cl q) nin0) hh hcw) pd_17 rfl (by rw [hml]; rfl) (W := 0) rfl (by decide) (by decide) (by decide) (by decide) (hb hby at_104) rfl ?_
    intro T5 v5 L5 X5 hZ hown q5
    obtain ⟨sb5, bts5, rfl, M5, K5, sz5, Es5, Fv5, Fc5, Ab5⟩ := q5
    have N5 := Fr.app N4 M5
    show Run p e below (s.setVm T5.vm) _ _ _ (T5.setTop (mkF m 107 #[.val (.int p1), .val (.int p2), .val (.int p3), .val (.int p4), .val (.int p5), .val (.int p6), .val (.int k0), .val (.int k1), .val (.int k2), .val (.ref b1), .val (.int 0), .val (.int 0), z12, .val (.int wd), .unset, .unset, .unset, .unset] [(.ref sb5)]))
    have ne_b1_sb5 : b1 ≠ sb5 := Nat.ne_of_lt (Nat.lt_of_lt_of_le A_b1.lt sz5)
    replace S_COMPACT_STRINGS := (((S_COMPACT_STRINGS.ext E1).wr W2).wr W3).wr W4
    replace S_COMPACT_STRINGS := Sta_keep S_COMPACT_STRINGS K5 all0
    replace S_SIOOBE_FORMATTER := (((S_SIOOBE_FORMATTER.ext E1).wr W2).wr W3).wr W4
    replace S_SIOOBE_FORMATTER := Sta_keep S_SIOOBE_FORMATTER K5 all0
    replace S__assertionsDisabled := (((S__assertionsDisabled.ext E1).wr W2).wr W3).wr W4
    replace S__assertionsDisabled := Sta_keep S__assertionsDisabled K5 all0
    replace S_HI_BYTE_SHIFT := (((S_HI_BYTE_SHIFT.ext E1).wr W2).wr W3).wr W4
    replace S_HI_BYTE_SHIFT := Sta_keep S_HI_BYTE_SHIFT K5 all0
    replace S_LO_BYTE_SHIFT := (((S_LO_BYTE_SHIFT.ext E1).wr W2).wr W3).wr W4
    replace S_LO_BYTE_SHIFT := Sta_keep S_LO_BYTE_SHIFT K5 all0
    have Z5 : n0 ≤ T5.heap.size := Nat.le_trans Z4 K5.1
    replace KP := KP.trans K5 all0
    refine Run.x_astore (q := 109) X5 hx #[.val (.int p1), .val (.int p2), .val (.int p3), .val (.int p4), .val (.int p5), .val (.int p6), .val (.int k0), .val (.int k1), .val (.int k2), .val (.ref b1), .val (.int 0), .val (.int 0), z12, .val (.int wd), .val (.ref sb5), .unset, .unset, .unset] (hb hby at_107) rfl rfl rfl ?_
    obtain ⟨T6, h6, X6, e6, E6, A6, D6, -, st6⟩ := newO X5 hx hZ hown (wm35 hw) (wm36 hw) (wm37 hw) rfl (g := (mkF m 109 #[.val (.int p1), .val (.int p2), .val (.int p3), .val (.int p4), .val (.int p5), .val (.int p6), .val (.int k0), .val (.int k1), .val (.int k2), .val (.ref b1), .val (.int 0), .val (.int 0), z12, .val (.int wd), .val (.ref sb5), .unset, .unset, .unset] [])) rfl (hb hby at_109) (by decide) (by decide)
    obtain ⟨b6, gg6⟩ : ∃ z, z = T5.heap.size := ⟨_, rfl⟩
    rw [← gg6] at A6 D6 st6
    have g_b6 : n0 ≤ b6 := Nat.le_trans Z5 (Nat.le_of_eq gg6.symm)
    replace A_b1 := A_b1.keep K5 nin0
    have ne_b1_b6 : b1 ≠ b6 := Nat.ne_of_lt (Nat.lt_of_lt_of_le A_b1.lt (Nat.le_of_eq gg6.symm))
    have ne_sb5_b6 : sb5 ≠ b6 := Nat.ne_of_lt (Nat.lt_of_lt_of_le Es5.lt (Nat.le_of_eq gg6.symm))
    have ne_bts5_b6 : bts5 ≠ b6 := Nat.ne_of_lt (Nat.lt_of_lt_of_le Ab5.lt (Nat.le_of_eq gg6.symm))
    have sz_b6 : h0.size ≤ b6 := Nat.le_trans KP.1 (Nat.le_of_eq gg6.symm)
    have Z6 : n0 ≤ h6.size := Nat.le_trans Z5 E6.1
    have Y6 : T5.heap.size ≤ h6.size := Nat.le_trans (Nat.le_refl _) E6.1
    replace KP := KP.ext E6
    have E_b6 := A6
    have F_b6_text : Fld Z h6 b6 "com/example/sayso/sayso/TextCursor" "text" "Ljava/lang/String;" .null := D6 (Or.inr (wm43 hw)) (ty := (.object "java/lang/String")) (by decide)
    have F_b6_position : Fld Z h6 b6 "com/example/sayso/sayso/TextCursor" "position" "I" (.int 0) := D6 (Or.inl (wm45 hw)) (ty := .int) (by decide)
    refine Run.st st6 ?_
    show Run p e below (s.setVm T5.vm) _ _ _ (T6.setTop (mkF m 112 #[.val (.int p1), .val (.int p2), .val (.int p3), .val (.int p4), .val (.int p5), .val (.int p6), .val (.int k0), .val (.int k1), .val (.int k2), .val (.ref b1), .val (.int 0), .val (.int 0), z12, .val (.int wd), .val (.ref sb5), .unset, .unset, .unset] [(.ref b6)]))
    refine Run.x_dup (q := 113) X6 hx (hb hby at_112) rfl rfl ?_
    refine Run.x_aload (q := 115) X6 hx (hb hby at_113) rfl rfl rfl ?_
    refine Run.callC X6 hx hZ e6 (y := (⟨"com/example/sayso/sayso/TextCursor", "<init>", "(Ljava/lang/String;)V"⟩ : MethodName)) hown rfl (wm38 hw) (wm39 hw) (wm37 hw) (wm40 hw) (by decide) (a := b6) (argsL := [(.ref sb5)]) (rest := [(.ref b6)]) (c_tci l Z a0 hw b6 sb5 h6 n0 Z6 E_b6 F_b6_text F_b6_position g_b6) pd_18 rfl (by rw [hml]; rfl) (W := 1) rfl (by decide) (by decide) (by decide) (by decide) (hb hby at_115) rfl ?_
    intro T7 v7 L7 X7 q7
    obtain ⟨rfl, M7, K7, E7, F7_0, F7_1⟩ := q7
    have N7 := Fr.app N5 M7
    show Run p e below (s.setVm T5.vm) _ _ _ (T7.setTop (mkF m 118 #[.val (.int p1), .val (.int p2), .val (.int p3), .val (.int p4), .val (.int p5), .val (.int p6), .val (.int k0), .val (.int k1), .val (.int k2), .val (.ref b1), .val (.int 0), .val (.int 0), z12, .val (.int wd), .val (.ref sb5), .unset, .unset, .unset] [(.ref b6)]))
    replace S_COMPACT_STRINGS := S_COMPACT_STRINGS.ext E6
    replace S_COMPACT_STRINGS := Sta_keep S_COMPACT_STRINGS K7 (allS (Exa_ns E_b6) all0)
    replace S_SIOOBE_FORMATTER := S_SIOOBE_FORMATTER.ext E6
    replace S_SIOOBE_FORMATTER := Sta_keep S_SIOOBE_FORMATTER K7 (allS (Exa_ns E_b6) all0)
    replace S__assertionsDisabled := S__assertionsDisabled.ext E6
    replace S__assertionsDisabled := Sta_keep S__assertionsDisabled K7 (allS (Exa_ns E_b6) all0)
    replace S_HI_BYTE_SHIFT := S_HI_BYTE_SHIFT.ext E6
    replace S_HI_BYTE_SHIFT := Sta_keep S_HI_BYTE_SHIFT K7 (allS (Exa_ns E_b6) all0)
    replace S_LO_BYTE_SHIFT := S_LO_BYTE_SHIFT.ext E6
    replace S_LO_BYTE_SHIFT := Sta_keep S_LO_BYTE_SHIFT K7 (allS (Exa_ns E_b6) all0)
    have Z7 : n0 ≤ T7.heap.size := Nat.le_trans Z6 K7.1
    have Y7 : T5.heap.size ≤ T7.heap.size := Nat.le_trans Y6 K7.1
    replace KP := KP.trans K7 (allS (Or.inr sz_b6) all0)
    refine Run.x_astore (q := 120) X7 hx #[.val (.int p1), .val (.int p2), .val (.int p3), .val (.int p4), .val (.int p5), .val (.int p6), .val (.int k0), .val (.int k1), .val (.int k2), .val (.ref b1), .val (.int 0), .val (.int 0), z12, .val (.int wd), .val (.ref sb5), .val (.ref b6), .unset, .unset] (hb hby at_118) rfl rfl rfl ?_
    refine Run.x_aload (q := 122) X7 hx (hb hby at_120) rfl rfl rfl ?_
    refine Run.x_iload (q := 124) X7 hx (hb hby at_122) rfl rfl ?_
    replace E_b6 := E_b6.keep K7
    obtain ⟨T8, h8, X8, e8, W8, st8⟩ := putF X7 hx hZ hown (host := "") (Or.inl (wm44 hw)) Via.refl rfl F7_1 E_b6 (Or.inl (wm45 hw)) (wm36 hw) (ty := .int) (by decide) rfl rfl (g := (mkF m 124 #[.val (.int p1), .val (.int p2), .val (.int p3), .val (.int p4), .val (.int p5), .val (.int p6), .val (.int k0), .val (.int k1), .val (.int k2), .val (.ref b1), .val (.int 0), .val (.int 0), z12, .val (.int wd), .val (.ref sb5), .val (.ref b6), .unset, .unset] [(.int 0), (.ref b6)])) rfl rfl (hb hby at_124)
    replace F7_1 := F7_1.same W8
    have Z8 : n0 ≤ h8.size := Nat.le_trans Z7 (Nat.le_of_eq W8.size.symm)
    have Y8 : T5.heap.size ≤ h8.size := Nat.le_trans Y7 (Nat.le_of_eq W8.size.symm)
    replace KP := KP.wr W8 (Or.inr sz_b6)
    have N8 := Fr.snoc X8 N7 g_b6
    refine Run.st st8 ?_
    show Run p e below (s.setVm T5.vm) _ _ _ (T8.setTop (mkF m 127 #[.val (.int p1), .val (.int p2), .val (.int p3), .val (.int p4), .val (.int p5), .val (.int p6), .val (.int k0), .val (.int k1), .val (.int k2), .val (.ref b1), .val (.int 0), .val (.int 0), z12, .val (.int wd), .val (.ref sb5), .val (.ref b6), .unset, .unset] []))
    refine Run.x_iload (q := 129) X8 hx (hb hby at_127) rfl rfl ?_
    refine Run.x_iload (q := 131) X8 hx (hb hby at_129) rfl rfl ?_
    refine Run.x_icmpYes (q := 154) X8 hx (hb hby at_131) (flt (by decide : ¬ ((0 : Int32) < (0 : Int32)))).2.1 (by decide) (by decide) ?_
    refine Run.x_iconst (q := 155) X8 hx (hb hby at_154) (z := (0 : Int32)) rfl rfl ?_
    refine Run.x_istore (q := 157) X8 hx #[.val (.int p1), .val (.int p2), .val (.int p3), .val (.int p4), .val (.int p5), .val (.int p6), .val (.int k0), .val (.int k1), .val (.int k2), .val (.ref b1), .val (.int 0), .val (.int 0), z12, .val (.int wd), .val (.ref sb5), .val (.ref b6), .val (.int 0), .unset] (hb hby at_155) rfl rfl ?_
    refine Run.x_aload (q := 159) X8 hx (hb hby at_157) rfl rfl rfl ?_
    refine Run.x_iload (q := 161) X8 hx (hb hby at_159) rfl rfl ?_
    replace E_b6 := E_b6.wr W8
    replace F7_0 := F7_0.other W8 (Or.inr (slot_ne (Or.inr (wm43 hw)) (Or.inl (wm45 hw)) (by decide) (t := (.object "java/lang/String")) (t' := .int) (by decide) (by decide)))
    replace Es5 := ((Es5.ext E6).keep K7).wr W8
    replace Fc5 := ((Fc5.ext E6).keep K7 (ninS ne_sb5_b6 nin0)).other W8 (Or.inl ne_sb5_b6)
    replace Fv5 := ((Fv5.ext E6).keep K7 (ninS ne_sb5_b6 nin0)).other W8 (Or.inl ne_sb5_b6)
    replace Ab5 := ((Ab5.ext E6).keep K7 (ninS ne_bts5_b6 nin0)).other W8 ne_bts5_b6
    replace S_COMPACT_STRINGS := S_COMPACT_STRINGS.wr W8
    refine Run.callVI (q := 164) X8 hx hZ e8 (y := (⟨"com/example/sayso/sayso/TextCursor", "at", "(C)Z"⟩ : MethodName)) (z := (⟨"com/example/sayso/sayso/TextCursor", "at", "(C)Z"⟩ : MethodName)) hown (wm46 hw) (wm47 hw) (notFace_of_selects (args := #[]) (mvT hZ (wm49 hw))) (wm49 hw) (wm48 hw) (wm37 hw) (wm50 hw) (by decide) (a := b6) E_b6 (argsL := [(.int wd)]) (rest := []) (c_atg0 l Z a0 hw b6 wd h8 n0 Z8 (0 : Int32) (0 : Int32) sb5 cp bts5 [] (0 : Int32) E_b6 F7_1 F7_0 Es5 Fc5 Fv5 Ab5 S_COMPACT_STRINGS hcp rfl (by decide) (by decide)) pd_19 rfl (by rw [hml]; rfl) (W := 0) rfl (by decide) (by decide) (by decide) (by decide) (hb hby at_161) rfl rfl fun T9 L9 X9 M9 e9 => ?_
    have N9 := Fr.app N8 M9
    refine Run.x_istore (q := 166) X9 hx #[.val (.int p1), .val (.int p2), .val (.int p3), .val (.int p4), .val (.int p5), .val (.int p6), .val (.int k0), .val (.int k1), .val (.int k2), .val (.ref b1), .val (.int 0), .val (.int 0), z12, .val (.int wd), .val (.ref sb5), .val (.ref b6), .val (.int 0), .val (.int 0)] (hb hby at_164) rfl rfl ?_
    refine Run.x_iload (q := 168) X9 hx (hb hby at_166) rfl rfl ?_
    refine Run.x_iload (q := 170) X9 hx (hb hby at_168) rfl rfl ?_
    refine Run.x_icmpNo (q := 173) X9 hx (hb hby at_170) (teq (by decide : (0 : Int32) = (0 : Int32))).2 rfl ?_
    refine Run.x_aload (q := 175) X9 hx (hb hby at_173) rfl rfl rfl ?_
    refine Run.z_getF (q := 178) X9 hx hZ e9 hown (wm44 hw) F7_1 (hb hby at_175) rfl fun T10 X10 e10 => ?_
    refine Run.x_iload (q := 180) X10 hx (hb hby at_178) rfl rfl ?_
    refine Run.x_icmpNo (q := 183) X10 hx (hb hby at_180) (teq (by decide : (0 : Int32) = (0 : Int32))).2 rfl ?_
    refine Run.x_aload (q := 185) X10 hx (hb hby at_183) rfl rfl rfl ?_
    refine Run.z_getF (q := 188) X10 hx hZ e10 hown (wm84 hw) F7_0 (hb hby at_185) rfl fun T11 X11 e11 => ?_
    refine Run.x_aload (q := 190) X11 hx (hb hby at_188) rfl rfl rfl ?_
    refine Run.st (B := T11.setTop (mkF m 193 #[.val (.int p1), .val (.int p2), .val (.int p3), .val (.int p4), .val (.int p5), .val (.int p6), .val (.int k0), .val (.int k1), .val (.int k2), .val (.ref b1), .val (.int 0), .val (.int 0), z12, .val (.int wd), .val (.ref sb5), .val (.ref b6), .val (.int 0), .val (.int 0)] [])) (fun t kt => Jvm.RoadKit.acmp (g := (mkF m 190 #[.val (.int p1), .val (.int p2), .val (.int p3), .val (.int p4), .val (.int p5), .val (.int p6), .val (.int k0), .val (.int k1), .val (.int k2), .val (.ref b1), .val (.int 0), .val (.int 0), z12, .val (.int wd), .val (.ref sb5), .val (.ref b6), .val (.int 0), .val (.int 0)] [(.ref sb5), (.ref sb5)])) X11 hx rfl rfl rfl (pc0 := 190) (pc' := 193) (same := true) rfl (hb hby at_190) rfl (decide_eq_true rfl) (by decide) (by decide) kt) ?_
    refine Run.x_iconst (q := 194) X11 hx (hb hby at_193) (z := (1 : Int32)) rfl rfl ?_
    refine Run.x_goto (q := 198) X11 hx (hb hby at_194) (by decide) (by decide) ?_
    refine Run.retN X11 hx hlk e11 (t := .boolean) hret (by simp) (z' := (1 : Int32)) (by decide) (hb hby at_198) (by decide) (by decide) ?_
    exact ⟨⟨rfl, N9⟩, Y8⟩
  ·skip
   show Run p e below s _ _ _ (T4.setTop (mkF m 96 #[.val (.int p1), .val (.int p2), .val (.int p3), .val (.int p4), .val (.int p5), .val (.int p6), .val (.int k0), .val (.int k1), .val (.int k2), .val (.ref b1), .val (.int 1), .val (.int pp), z12, .val (.int wd), .unset, .unset, .unset, .unset] []))
   by_cases hA : (255 : Int32) < k0
   ·skip
    rcases own_s1 hpp with rfl | rfl
    ·skip
     show Run p e below s _ _ _ (T4.setTop (mkF m 96 #[.val (.int p1), .val (.int p2), .val (.int p3), .val (.int p4), .val (.int p5), .val (.int p6), .val (.int k0), .val (.int k1), .val (.int k2), .val (.ref b1), .val (.int 1), .val (.int 0), z12, .val (.int wd), .unset, .unset, .unset, .unset] []))
     refine Run.x_iload (q := 98) X4 hx (hb hby at_96) rfl rfl ?_
     refine Run.x_iload (q := 100) X4 hx (hb hby at_98) rfl rfl ?_
     refine Run.x_iload (q := 102) X4 hx (hb hby at_100) rfl rfl ?_
     refine Run.x_iload (q := 104) X4 hx (hb hby at_102) rfl rfl ?_
     replace S_COMPACT_STRINGS := (((S_COMPACT_STRINGS.ext E1).wr W2).wr W3).wr W4
     replace S__assertionsDisabled := (((S__assertionsDisabled.ext E1).wr W2).wr W3).wr W4
     replace S_HI_BYTE_SHIFT := (((S_HI_BYTE_SHIFT.ext E1).wr W2).wr W3).wr W4
     replace S_LO_BYTE_SHIFT := (((S_LO_BYTE_SHIFT.ext E1).wr W2).wr W3).wr W4
     refine Run.callS X4 hx hZ e4 (y := (⟨"com/example/sayso/sayso/TextCursorAtPinLaw", "make", "(ICCC)Ljava/lang/String;"⟩ : MethodName)) hown (wm2 hw) (wm3 hw) (wm4 hw) (wm5 hw) (by decide) (argsL := [(.int 1), (.int k0), (.int k1), (.int k2)]) (rest := []) (c_mk_1_1 l Z a0 hw k0 k1 k2 h4 n0 Z4 cp S_COMPACT_STRINGS S__assertionsDisabled S_HI_BYTE_SHIFT S_LO_BYTE_SHIFT hcp hA rk0 rk1 rk2) pd_17 rfl (by rw [hml]; rfl) (W := 0) rfl (by decide) (by decide) (by decide) (by decide) (hb hby at_104) rfl ?_
     intro T12 v12 L12 X12 q12
     obtain ⟨sb12, bts12, rfl, M12, K12, sz12, Es12, Fv12, Fc12, Ab12⟩ := q12
     have N12 := Fr.app N4 M12
     show Run p e below s _ _ _ (T12.setTop (mkF m 107 #[.val (.int p1), .val (.int p2), .val (.int p3), .val (.int p4), .val (.int p5), .val (.int p6), .val (.int k0), .val (.int k1), .val (.int k2), .val (.ref b1), .val (.int 1), .val (.int 0), z12, .val (.int wd), .unset, .unset, .unset, .unset] [(.ref sb12)]))
     have ne_b1_sb12 : b1 ≠ sb12 := Nat.ne_of_lt (Nat.lt_of_lt_of_le A_b1.lt sz12)
     replace S_COMPACT_STRINGS := Sta_keep S_COMPACT_STRINGS K12 all0
     replace S_SIOOBE_FORMATTER := (((S_SIOOBE_FORMATTER.ext E1).wr W2).wr W3).wr W4
     replace S_SIOOBE_FORMATTER := Sta_keep S_SIOOBE_FORMATTER K12 all0
     replace S__assertionsDisabled := Sta_keep S__assertionsDisabled K12 all0
     replace S_HI_BYTE_SHIFT := Sta_keep S_HI_BYTE_SHIFT K12 all0
     replace S_LO_BYTE_SHIFT := Sta_keep S_LO_BYTE_SHIFT K12 all0
     have Z12 : n0 ≤ T12.heap.size := Nat.le_trans Z4 K12.1
     replace KP := KP.trans K12 all0
     refine Run.x_astore (q := 109) X12 hx #[.val (.int p1), .val (.int p2), .val (.int p3), .val (.int p4), .val (.int p5), .val (.int p6), .val (.int k0), .val (.int k1), .val (.int k2), .val (.ref b1), .val (.int 1), .val (.int 0), z12, .val (.int wd), .val (.ref sb12), .unset, .unset, .unset] (hb hby at_107) rfl rfl rfl ?_
     obtain ⟨T13, h13, X13, e13, E13, A13, D13, -, st13⟩ := newO X12 hx hZ hown (wm35 hw) (wm36 hw) (wm37 hw) rfl (g := (mkF m 109 #[.val (.int p1), .val (.int p2), .val (.int p3), .val (.int p4), .val (.int p5), .val (.int p6), .val (.int k0), .val (.int k1), .val (.int k2), .val (.ref b1), .val (.int 1), .val (.int 0), z12, .val (.int wd), .val (.ref sb12), .unset, .unset, .unset] [])) rfl (hb hby at_109) (by decide) (by decide)
     obtain ⟨b13, gg13⟩ : ∃ z, z = T12.heap.size := ⟨_, rfl⟩
     rw [← gg13] at A13 D13 st13
     have g_b13 : n0 ≤ b13 := Nat.le_trans Z12 (Nat.le_of_eq gg13.symm)
     replace A_b1 := A_b1.keep K12 nin0
     have ne_b1_b13 : b1 ≠ b13 := Nat.ne_of_lt (Nat.lt_of_lt_of_le A_b1.lt (Nat.le_of_eq gg13.symm))
     have ne_sb12_b13 : sb12 ≠ b13 := Nat.ne_of_lt (Nat.lt_of_lt_of_le Es12.lt (Nat.le_of_eq gg13.symm))
     have ne_bts12_b13 : bts12 ≠ b13 := Nat.ne_of_lt (Nat.lt_of_lt_of_le Ab12.lt (Nat.le_of_eq gg13.symm))
     have sz_b13 : h0.size ≤ b13 := Nat.le_trans KP.1 (Nat.le_of_eq gg13.symm)
     have Z13 : n0 ≤ h13.size := Nat.le_trans Z12 E13.1
     replace KP := KP.ext E13
     have E_b13 := A13
     have F_b13_text : Fld Z h13 b13 "com/example/sayso/sayso/TextCursor" "text" "Ljava/lang/String;" .null := D13 (Or.inr (wm43 hw)) (ty := (.object "java/lang/String")) (by decide)
     have F_b13_position : Fld Z h13 b13 "com/example/sayso/sayso/TextCursor" "position" "I" (.int 0) := D13 (Or.inl (wm45 hw)) (ty := .int) (by decide)
     refine Run.st st13 ?_
     show Run p e below s _ _ _ (T13.setTop (mkF m 112 #[.val (.int p1), .val (.int p2), .val (.int p3), .val (.int p4), .val (.int p5), .val (.int p6), .val (.int k0), .val (.int k1), .val (.int k2), .val (.ref b1), .val (.int 1), .val (.int 0), z12, .val (.int wd), .val (.ref sb12), .unset, .unset, .unset] [(.ref b13)]))
     refine Run.x_dup (q := 113) X13 hx (hb hby at_112) rfl rfl ?_
     refine Run.x_aload (q := 115) X13 hx (hb hby at_113) rfl rfl rfl ?_
     refine Run.callC X13 hx hZ e13 (y := (⟨"com/example/sayso/sayso/TextCursor", "<init>", "(Ljava/lang/String;)V"⟩ : MethodName)) hown rfl (wm38 hw) (wm39 hw) (wm37 hw) (wm40 hw) (by decide) (a := b13) (argsL := [(.ref sb12)]) (rest := [(.ref b13)]) (c_tci l Z a0 hw b13 sb12 h13 n0 Z13 E_b13 F_b13_text F_b13_position g_b13) pd_18 rfl (by rw [hml]; rfl) (W := 1) rfl (by decide) (by decide) (by decide) (by decide) (hb hby at_115) rfl ?_
     intro T14 v14 L14 X14 q14
     obtain ⟨rfl, M14, K14, E14, F14_0, F14_1⟩ := q14
     have N14 := Fr.app N12 M14
     show Run p e below s _ _ _ (T14.setTop (mkF m 118 #[.val (.int p1), .val (.int p2), .val (.int p3), .val (.int p4), .val (.int p5), .val (.int p6), .val (.int k0), .val (.int k1), .val (.int k2), .val (.ref b1), .val (.int 1), .val (.int 0), z12, .val (.int wd), .val (.ref sb12), .unset, .unset, .unset] [(.ref b13)]))
     replace S_COMPACT_STRINGS := S_COMPACT_STRINGS.ext E13
     replace S_COMPACT_STRINGS := Sta_keep S_COMPACT_STRINGS K14 (allS (Exa_ns E_b13) all0)
     replace S_SIOOBE_FORMATTER := S_SIOOBE_FORMATTER.ext E13
     replace S_SIOOBE_FORMATTER := Sta_keep S_SIOOBE_FORMATTER K14 (allS (Exa_ns E_b13) all0)
     replace S__assertionsDisabled := S__assertionsDisabled.ext E13
     replace S__assertionsDisabled := Sta_keep S__assertionsDisabled K14 (allS (Exa_ns E_b13) all0)
     replace S_HI_BYTE_SHIFT := S_HI_BYTE_SHIFT.ext E13
     replace S_HI_BYTE_SHIFT := Sta_keep S_HI_BYTE_SHIFT K14 (allS (Exa_ns E_b13) all0)
     replace S_LO_BYTE_SHIFT := S_LO_BYTE_SHIFT.ext E13
     replace S_LO_BYTE_SHIFT := Sta_keep S_LO_BYTE_SHIFT K14 (allS (Exa_ns E_b13) all0)
     have Z14 : n0 ≤ T14.heap.size := Nat.le_trans Z13 K14.1
     replace KP := KP.trans K14 (allS (Or.inr sz_b13) all0)
     refine Run.x_astore (q := 120) X14 hx #[.val (.int p1), .val (.int p2), .val (.int p3), .val (.int p4), .val (.int p5), .val (.int p6), .val (.int k0), .val (.int k1), .val (.int k2), .val (.ref b1), .val (.int 1), .val (.int 0), z12, .val (.int wd), .val (.ref sb12), .val (.ref b13), .unset, .unset] (hb hby at_118) rfl rfl rfl ?_
     refine Run.x_aload (q := 122) X14 hx (hb hby at_120) rfl rfl rfl ?_
     refine Run.x_iload (q := 124) X14 hx (hb hby at_122) rfl rfl ?_
     replace E_b13 := E_b13.keep K14
     obtain ⟨T15, h15, X15, e15, W15, st15⟩ := putF X14 hx hZ hown (host := "") (Or.inl (wm44 hw)) Via.refl rfl F14_1 E_b13 (Or.inl (wm45 hw)) (wm36 hw) (ty := .int) (by decide) rfl rfl (g := (mkF m 124 #[.val (.int p1), .val (.int p2), .val (.int p3), .val (.int p4), .val (.int p5), .val (.int p6), .val (.int k0), .val (.int k1), .val (.int k2), .val (.ref b1), .val (.int 1), .val (.int 0), z12, .val (.int wd), .val (.ref sb12), .val (.ref b13), .unset, .unset] [(.int 0), (.ref b13)])) rfl rfl (hb hby at_124)
     replace F14_1 := F14_1.same W15
     have Z15 : n0 ≤ h15.size := Nat.le_trans Z14 (Nat.le_of_eq W15.size.symm)
     replace KP := KP.wr W15 (Or.inr sz_b13)
     have N15 := Fr.snoc X15 N14 g_b13
     refine Run.st st15 ?_
     show Run p e below s _ _ _ (T15.setTop (mkF m 127 #[.val (.int p1), .val (.int p2), .val (.int p3), .val (.int p4), .val (.int p5), .val (.int p6), .val (.int k0), .val (.int k1), .val (.int k2), .val (.ref b1), .val (.int 1), .val (.int 0), z12, .val (.int wd), .val (.ref sb12), .val (.ref b13), .unset, .unset] []))
     refine Run.x_iload (q := 129) X15 hx (hb hby at_127) rfl rfl ?_
     refine Run.x_iload (q := 131) X15 hx (hb hby at_129) rfl rfl ?_
     refine Run.x_icmpNo (q := 134) X15 hx (hb hby at_131) (tlt (by decide : (0 : Int32) < (1 : Int32))).2.1 rfl ?_
     refine Run.x_aload (q := 136) X15 hx (hb hby at_134) rfl rfl rfl ?_
     refine Run.x_iload (q := 138) X15 hx (hb hby at_136) rfl rfl ?_
     replace A_b1 := ((A_b1.ext E13).keep K14 (ninS ne_b1_b13 nin0)).other W15 ne_b1_b13
     refine Run.y_ldC (q := 139) X15 hx hZ e15 A_b1 (i := 0) (v := (.int k0)) (by decide) rfl (hb hby at_138) rfl ?_
     refine Run.x_iload (q := 141) X15 hx (hb hby at_139) rfl rfl ?_
     by_cases hc141 : k0 = wd
     ·skip
      refine Run.x_icmpNo (q := 144) X15 hx (hb hby at_141) (teq hc141).2 rfl ?_
      refine Run.x_iconst (q := 145) X15 hx (hb hby at_144) (z := (1 : Int32)) rfl rfl ?_
      refine Run.x_goto (q := 149) X15 hx (hb hby at_145) (by decide) (by decide) ?_
      refine Run.x_istore (q := 151) X15 hx #[.val (.int p1), .val (.int p2), .val (.int p3), .val (.int p4), .val (.int p5), .val (.int p6), .val (.int k0), .val (.int k1), .val (.int k2), .val (.ref b1), .val (.int 1), .val (.int 0), z12, .val (.int wd), .val (.ref sb12), .val (.ref b13), .val (.int 1), .unset] (hb hby at_149) rfl rfl ?_
      refine Run.x_goto (q := 157) X15 hx (hb hby at_151) (by decide) (by decide) ?_
      refine Run.x_aload (q := 159) X15 hx (hb hby at_157) rfl rfl rfl ?_
      refine Run.x_iload (q := 161) X15 hx (hb hby at_159) rfl rfl ?_
      replace E_b13 := E_b13.wr W15
      replace F14_0 := F14_0.other W15 (Or.inr (slot_ne (Or.inr (wm43 hw)) (Or.inl (wm45 hw)) (by decide) (t := (.object "java/lang/String")) (t' := .int) (by decide) (by decide)))
      replace Es12 := ((Es12.ext E13).keep K14).wr W15
      replace Fc12 := ((Fc12.ext E13).keep K14 (ninS ne_sb12_b13 nin0)).other W15 (Or.inl ne_sb12_b13)
      replace Fv12 := ((Fv12.ext E13).keep K14 (ninS ne_sb12_b13 nin0)).other W15 (Or.inl ne_sb12_b13)
      replace Ab12 := ((Ab12.ext E13).keep K14 (ninS ne_bts12_b13 nin0)).other W15 ne_bts12_b13
      replace S_COMPACT_STRINGS := S_COMPACT_STRINGS.wr W15
      replace S_SIOOBE_FORMATTER := S_SIOOBE_FORMATTER.wr W15
      replace S__assertionsDisabled := S__assertionsDisabled.wr W15
      replace S_HI_BYTE_SHIFT := S_HI_BYTE_SHIFT.wr W15
      replace S_LO_BYTE_SHIFT := S_LO_BYTE_SHIFT.wr W15
      refine Run.callVI (q := 164) X15 hx hZ e15 (y := (⟨"com/example/sayso/sayso/TextCursor", "at", "(C)Z"⟩ : MethodName)) (z := (⟨"com/example/sayso/sayso/TextCursor", "at", "(C)Z"⟩ : MethodName)) hown (wm46 hw) (wm47 hw) (notFace_of_selects (args := #[]) (mvT hZ (wm49 hw))) (wm49 hw) (wm48 hw) (wm37 hw) (wm50 hw) (by decide) (a := b13) E_b13 (argsL := [(.int wd)]) (rest := []) (c_atl1 l Z a0 hw b13 wd h15 n0 Z15 (0 : Int32) (1 : Int32) sb12 cp bts12 [(.int (k0 >>> ((0 : Int32) &&& 31)).toInt8.toInt32), (.int (k0 >>> ((8 : Int32) &&& 31)).toInt8.toInt32)] (2 : Int32) sf (1 : Int32) 0 (k0 >>> ((0 : Int32) &&& 31)).toInt8.toInt32 (k0 >>> ((8 : Int32) &&& 31)).toInt8.toInt32 k0 E_b13 F14_1 F14_0 Es12 Fc12 Fv12 Ab12 S_COMPACT_STRINGS S_SIOOBE_FORMATTER S__assertionsDisabled S_HI_BYTE_SHIFT S_LO_BYTE_SHIFT hcp (by decide) (by decide) hsf rfl (by decide) (by decide) (by decide) (by decide) (by decide) rfl rfl (own_utf rk0) (own_nr rk0)) pd_19 rfl (by rw [hml]; rfl) (W := 0) rfl (by decide) (by decide) (by decide) (by decide) (hb hby at_161) rfl rfl fun T16 L16 X16 M16 e16 => ?_
      have N16 := Fr.app N15 M16
      refine Run.x_istore (q := 166) X16 hx #[.val (.int p1), .val (.int p2), .val (.int p3), .val (.int p4), .val (.int p5), .val (.int p6), .val (.int k0), .val (.int k1), .val (.int k2), .val (.ref b1), .val (.int 1), .val (.int 0), z12, .val (.int wd), .val (.ref sb12), .val (.ref b13), .val (.int 1), .val (.int (own_b (k0 = wd)))] (hb hby at_164) rfl rfl ?_
      refine Run.x_iload (q := 168) X16 hx (hb hby at_166) rfl rfl ?_
      refine Run.x_iload (q := 170) X16 hx (hb hby at_168) rfl rfl ?_
      refine Run.x_icmpNo (q := 173) X16 hx (hb hby at_170) (teq (own_b1 hc141)).2 rfl ?_
      refine Run.x_aload (q := 175) X16 hx (hb hby at_173) rfl rfl rfl ?_
      refine Run.z_getF (q := 178) X16 hx hZ e16 hown (wm44 hw) F14_1 (hb hby at_175) rfl fun T17 X17 e17 => ?_
      refine Run.x_iload (q := 180) X17 hx (hb hby at_178) rfl rfl ?_
      refine Run.x_icmpNo (q := 183) X17 hx (hb hby at_180) (teq (by decide : (0 : Int32) = (0 : Int32))).2 rfl ?_
      refine Run.x_aload (q := 185) X17 hx (hb hby at_183) rfl rfl rfl ?_
      refine Run.z_getF (q := 188) X17 hx hZ e17 hown (wm84 hw) F14_0 (hb hby at_185) rfl fun T18 X18 e18 => ?_
      refine Run.x_aload (q := 190) X18 hx (hb hby at_188) rfl rfl rfl ?_
      refine Run.st (B := T18.setTop (mkF m 193 #[.val (.int p1), .val (.int p2), .val (.int p3), .val (.int p4), .val (.int p5), .val (.int p6), .val (.int k0), .val (.int k1), .val (.int k2), .val (.ref b1), .val (.int 1), .val (.int 0), z12, .val (.int wd), .val (.ref sb12), .val (.ref b13), .val (.int 1), .val (.int (own_b (k0 = wd)))] [])) (fun t kt => Jvm.RoadKit.acmp (g := (mkF m 190 #[.val (.int p1), .val (.int p2), .val (.int p3), .val (.int p4), .val (.int p5), .val (.int p6), .val (.int k0), .val (.int k1), .val (.int k2), .val (.ref b1), .val (.int 1), .val (.int 0), z12, .val (.int wd), .val (.ref sb12), .val (.ref b13), .val (.int 1), .val (.int (own_b (k0 = wd)))] [(.ref sb12), (.ref sb12)])) X18 hx rfl rfl rfl (pc0 := 190) (pc' := 193) (same := true) rfl (hb hby at_190) rfl (decide_eq_true rfl) (by decide) (by decide) kt) ?_
      refine Run.x_iconst (q := 194) X18 hx (hb hby at_193) (z := (1 : Int32)) rfl rfl ?_
      refine Run.x_goto (q := 198) X18 hx (hb hby at_194) (by decide) (by decide) ?_
      refine Run.retN X18 hx hlk e18 (t := .boolean) hret (by simp) (z' := (1 : Int32)) (by decide) (hb hby at_198) (by decide) (by decide) ?_
      exact ⟨rfl, N16⟩
     ·skip
      refine Run.x_icmpYes (q := 148) X15 hx (hb hby at_141) (feq hc141).2 (by decide) (by decide) ?_
      refine Run.x_iconst (q := 149) X15 hx (hb hby at_148) (z := (0 : Int32)) rfl rfl ?_
      refine Run.x_istore (q := 151) X15 hx #[.val (.int p1), .val (.int p2), .val (.int p3), .val (.int p4), .val (.int p5), .val (.int p6), .val (.int k0), .val (.int k1), .val (.int k2), .val (.ref b1), .val (.int 1), .val (.int 0), z12, .val (.int wd), .val (.ref sb12), .val (.ref b13), .val (.int 0), .unset] (hb hby at_149) rfl rfl ?_
      refine Run.x_goto (q := 157) X15 hx (hb hby at_151) (by decide) (by decide) ?_
      refine Run.x_aload (q := 159) X15 hx (hb hby at_157) rfl rfl rfl ?_
      refine Run.x_iload (q := 161) X15 hx (hb hby at_159) rfl rfl ?_
      replace E_b13 := E_b13.wr W15
      replace F14_0 := F14_0.other W15 (Or.inr (slot_ne (Or.inr (wm43 hw)) (Or.inl (wm45 hw)) (by decide) (t := (.object "java/lang/String")) (t' := .int) (by decide) (by decide)))
      replace Es12 := ((Es12.ext E13).keep K14).wr W15
      replace Fc12 := ((Fc12.ext E13).keep K14 (ninS ne_sb12_b13 nin0)).other W15 (Or.inl ne_sb12_b13)
      replace Fv12 := ((Fv12.ext E13).keep K14 (ninS ne_sb12_b13 nin0)).other W15 (Or.inl ne_sb12_b13)
      replace Ab12 := ((Ab12.ext E13).keep K14 (ninS ne_bts12_b13 nin0)).other W15 ne_bts12_b13
      replace S_COMPACT_STRINGS := S_COMPACT_STRINGS.wr W15
      replace S_SIOOBE_FORMATTER := S_SIOOBE_FORMATTER.wr W15
      replace S__assertionsDisabled := S__assertionsDisabled.wr W15
      replace S_HI_BYTE_SHIFT := S_HI_BYTE_SHIFT.wr W15
      replace S_LO_BYTE_SHIFT := S_LO_BYTE_SHIFT.wr W15
      refine Run.callVI (q := 164) X15 hx hZ e15 (y := (⟨"com/example/sayso/sayso/TextCursor", "at", "(C)Z"⟩ : MethodName)) (z := (⟨"com/example/sayso/sayso/TextCursor", "at", "(C)Z"⟩ : MethodName)) hown (wm46 hw) (wm47 hw) (notFace_of_selects (args := #[]) (mvT hZ (wm49 hw))) (wm49 hw) (wm48 hw) (wm37 hw) (wm50 hw) (by decide) (a := b13) E_b13 (argsL := [(.int wd)]) (rest := []) (c_atl1 l Z a0 hw b13 wd h15 n0 Z15 (0 : Int32) (1 : Int32) sb12 cp bts12 [(.int (k0 >>> ((0 : Int32) &&& 31)).toInt8.toInt32), (.int (k0 >>> ((8 : Int32) &&& 31)).toInt8.toInt32)] (2 : Int32) sf (1 : Int32) 0 (k0 >>> ((0 : Int32) &&& 31)).toInt8.toInt32 (k0 >>> ((8 : Int32) &&& 31)).toInt8.toInt32 k0 E_b13 F14_1 F14_0 Es12 Fc12 Fv12 Ab12 S_COMPACT_STRINGS S_SIOOBE_FORMATTER S__assertionsDisabled S_HI_BYTE_SHIFT S_LO_BYTE_SHIFT hcp (by decide) (by decide) hsf rfl (by decide) (by decide) (by decide) (by decide) (by decide) rfl rfl (own_utf rk0) (own_nr rk0)) pd_19 rfl (by rw [hml]; rfl) (W := 0) rfl (by decide) (by decide) (by decide) (by decide) (hb hby at_161) rfl rfl fun T19 L19 X19 M19 e19 => ?_
      have N19 := Fr.app N15 M19
      refine Run.x_istore (q := 166) X19 hx #[.val (.int p1), .val (.int p2), .val (.int p3), .val (.int p4), .val (.int p5), .val (.int p6), .val (.int k0), .val (.int k1), .val (.int k2), .val (.ref b1), .val (.int 1), .val (.int 0), z12, .val (.int wd), .val (.ref sb12), .val (.ref b13), .val (.int 0), .val (.int (own_b (k0 = wd)))] (hb hby at_164) rfl rfl ?_
      refine Run.x_iload (q := 168) X19 hx (hb hby at_166) rfl rfl ?_
      refine Run.x_iload (q := 170) X19 hx (hb hby at_168) rfl rfl ?_
      refine Run.x_icmpNo (q := 173) X19 hx (hb hby at_170) (teq (own_b0 hc141)).2 rfl ?_
      refine Run.x_aload (q := 175) X19 hx (hb hby at_173) rfl rfl rfl ?_
      refine Run.z_getF (q := 178) X19 hx hZ e19 hown (wm44 hw) F14_1 (hb hby at_175) rfl fun T20 X20 e20 => ?_
      refine Run.x_iload (q := 180) X20 hx (hb hby at_178) rfl rfl ?_
      refine Run.x_icmpNo (q := 183) X20 hx (hb hby at_180) (teq (by decide : (0 : Int32) = (0 : Int32))).2 rfl ?_
      refine Run.x_aload (q := 185) X20 hx (hb hby at_183) rfl rfl rfl ?_
      refine Run.z_getF (q := 188) X20 hx hZ e20 hown (wm84 hw) F14_0 (hb hby at_185) rfl fun T21 X21 e21 => ?_
      refine Run.x_aload (q := 190) X21 hx (hb hby at_188) rfl rfl rfl ?_
      refine Run.st (B := T21.setTop (mkF m 193 #[.val (.int p1), .val (.int p2), .val (.int p3), .val (.int p4), .val (.int p5), .val (.int p6), .val (.int k0), .val (.int k1), .val (.int k2), .val (.ref b1), .val (.int 1), .val (.int 0), z12, .val (.int wd), .val (.ref sb12), .val (.ref b13), .val (.int 0), .val (.int (own_b (k0 = wd)))] [])) (fun t kt => Jvm.RoadKit.acmp (g := (mkF m 190 #[.val (.int p1), .val (.int p2), .val (.int p3), .val (.int p4), .val (.int p5), .val (.int p6), .val (.int k0), .val (.int k1), .val (.int k2), .val (.ref b1), .val (.int 1), .val (.int 0), z12, .val (.int wd), .val (.ref sb12), .val (.ref b13), .val (.int 0), .val (.int (own_b (k0 = wd)))] [(.ref sb12), (.ref sb12)])) X21 hx rfl rfl rfl (pc0 := 190) (pc' := 193) (same := true) rfl (hb hby at_190) rfl (decide_eq_true rfl) (by decide) (by decide) kt) ?_
      refine Run.x_iconst (q := 194) X21 hx (hb hby at_193) (z := (1 : Int32)) rfl rfl ?_
      refine Run.x_goto (q := 198) X21 hx (hb hby at_194) (by decide) (by decide) ?_
      refine Run.retN X21 hx hlk e21 (t := .boolean) hret (by simp) (z' := (1 : Int32)) (by decide) (hb hby at_198) (by decide) (by decide) ?_
      exact ⟨rfl, N19⟩
    ·skip
     show Run p e below s _ _ _ (T4.setTop (mkF m 96 #[.val (.int p1), .val (.int p2), .val (.int p3), .val (.int p4), .val (.int p5), .val (.int p6), .val (.int k0), .val (.int k1), .val (.int k2), .val (.ref b1), .val (.int 1), .val (.int 1), z12, .val (.int wd), .unset, .unset, .unset, .unset] []))
     refine Run.x_iload (q := 98) X4 hx (hb hby at_96) rfl rfl ?_
     refine Run.x_iload (q := 100) X4 hx (hb hby at_98) rfl rfl ?_
     refine Run.x_iload (q := 102) X4 hx (hb hby at_100) rfl rfl ?_
     refine Run.x_iload (q := 104) X4 hx (hb hby at_102) rfl rfl ?_
     replace S_COMPACT_STRINGS := (((S_COMPACT_STRINGS.ext E1).wr W2).wr W3).wr W4
     replace S__assertionsDisabled := (((S__assertionsDisabled.ext E1).wr W2).wr W3).wr W4
     replace S_HI_BYTE_SHIFT := (((S_HI_BYTE_SHIFT.ext E1).wr W2).wr W3).wr W4
     replace S_LO_BYTE_SHIFT := (((S_LO_BYTE_SHIFT.ext E1).wr W2).wr W3).wr W4
     refine Run.callS X4 hx hZ e4 (y := (⟨"com/example/sayso/sayso/TextCursorAtPinLaw", "make", "(ICCC)Ljava/lang/String;"⟩ : MethodName)) hown (wm2 hw) (wm3 hw) (wm4 hw) (wm5 hw) (by decide) (argsL := [(.int 1), (.int k0), (.int k1), (.int k2)]) (rest := []) (c_mk_1_1 l Z a0 hw k0 k1 k2 h4 n0 Z4 cp S_COMPACT_STRINGS S__assertionsDisabled S_HI_BYTE_SHIFT S_LO_BYTE_SHIFT hcp hA rk0 rk1 rk2) pd_17 rfl (by rw [hml]; rfl) (W := 0) rfl (by decide) (by decide) (by decide) (by decide) (hb hby at_104) rfl ?_
     intro T22 v22 L22 X22 q22
     obtain ⟨sb22, bts22, rfl, M22, K22, sz22, Es22, Fv22, Fc22, Ab22⟩ := q22
     have N22 := Fr.app N4 M22
     show Run p e below s _ _ _ (T22.setTop (mkF m 107 #[.val (.int p1), .val (.int p2), .val (.int p3), .val (.int p4), .val (.int p5), .val (.int p6), .val (.int k0), .val (.int k1), .val (.int k2), .val (.ref b1), .val (.int 1), .val (.int 1), z12, .val (.int wd), .unset, .unset, .unset, .unset] [(.ref sb22)]))
     have ne_b1_sb22 : b1 ≠ sb22 := Nat.ne_of_lt (Nat.lt_of_lt_of_le A_b1.lt sz22)
     replace S_COMPACT_STRINGS := Sta_keep S_COMPACT_STRINGS K22 all0
     replace S_SIOOBE_FORMATTER := (((S_SIOOBE_FORMATTER.ext E1).wr W2).wr W3).wr W4
     replace S_SIOOBE_FORMATTER := Sta_keep S_SIOOBE_FORMATTER K22 all0
     replace S__assertionsDisabled := Sta_keep S__assertionsDisabled K22 all0
     replace S_HI_BYTE_SHIFT := Sta_keep S_HI_BYTE_SHIFT K22 all0
     replace S_LO_BYTE_SHIFT := Sta_keep S_LO_BYTE_SHIFT K22 all0
     have Z22 : n0 ≤ T22.heap.size := Nat.le_trans Z4 K22.1
     replace KP := KP.trans K22 all0
     refine Run.x_astore (q := 109) X22 hx #[.val (.int p1), .val (.int p2), .val (.int p3), .val (.int p4), .val (.int p5), .val (.int p6), .val (.int k0), .val (.int k1), .val (.int k2), .val (.ref b1), .val (.int 1), .val (.int 1), z12, .val (.int wd), .val (.ref sb22), .unset, .unset, .unset] (hb hby at_107) rfl rfl rfl ?_
     obtain ⟨T23, h23, X23, e23, E23, A23, D23, -, st23⟩ := newO X22 hx hZ hown (wm35 hw) (wm36 hw) (wm37 hw) rfl (g := (mkF m 109 #[.val (.int p1), .val (.int p2), .val (.int p3), .val (.int p4), .val (.int p5), .val (.int p6), .val (.int k0), .val (.int k1), .val (.int k2), .val (.ref b1), .val (.int 1), .val (.int 1), z12, .val (.int wd), .val (.ref sb22), .unset, .unset, .unset] [])) rfl (hb hby at_109) (by decide) (by decide)
     obtain ⟨b23, gg23⟩ : ∃ z, z = T22.heap.size := ⟨_, rfl⟩
     rw [← gg23] at A23 D23 st23
     have g_b23 : n0 ≤ b23 := Nat.le_trans Z22 (Nat.le_of_eq gg23.symm)
     replace A_b1 := A_b1.keep K22 nin0
     have ne_b1_b23 : b1 ≠ b23 := Nat.ne_of_lt (Nat.lt_of_lt_of_le A_b1.lt (Nat.le_of_eq gg23.symm))
     have ne_sb22_b23 : sb22 ≠ b23 := Nat.ne_of_lt (Nat.lt_of_lt_of_le Es22.lt (Nat.le_of_eq gg23.symm))
     have ne_bts22_b23 : bts22 ≠ b23 := Nat.ne_of_lt (Nat.lt_of_lt_of_le Ab22.lt (Nat.le_of_eq gg23.symm))
     have sz_b23 : h0.size ≤ b23 := Nat.le_trans KP.1 (Nat.le_of_eq gg23.symm)
     have Z23 : n0 ≤ h23.size := Nat.le_trans Z22 E23.1
     replace KP := KP.ext E23
     have E_b23 := A23
     have F_b23_text : Fld Z h23 b23 "com/example/sayso/sayso/TextCursor" "text" "Ljava/lang/String;" .null := D23 (Or.inr (wm43 hw)) (ty := (.object "java/lang/String")) (by decide)
     have F_b23_position : Fld Z h23 b23 "com/example/sayso/sayso/TextCursor" "position" "I" (.int 0) := D23 (Or.inl (wm45 hw)) (ty := .int) (by decide)
     refine Run.st st23 ?_
     show Run p e below s _ _ _ (T23.setTop (mkF m 112 #[.val (.int p1), .val (.int p2), .val (.int p3), .val (.int p4), .val (.int p5), .val (.int p6), .val (.int k0), .val (.int k1), .val (.int k2), .val (.ref b1), .val (.int 1), .val (.int 1), z12, .val (.int wd), .val (.ref sb22), .unset, .unset, .unset] [(.ref b23)]))
     refine Run.x_dup (q := 113) X23 hx (hb hby at_112) rfl rfl ?_
     refine Run.x_aload (q := 115) X23 hx (hb hby at_113) rfl rfl rfl ?_
     refine Run.callC X23 hx hZ e23 (y := (⟨"com/example/sayso/sayso/TextCursor", "<init>", "(Ljava/lang/String;)V"⟩ : MethodName)) hown rfl (wm38 hw) (wm39 hw) (wm37 hw) (wm40 hw) (by decide) (a := b23) (argsL := [(.ref sb22)]) (rest := [(.ref b23)]) (c_tci l Z a0 hw b23 sb22 h23 n0 Z23 E_b23 F_b23_text F_b23_position g_b23) pd_18 rfl (by rw [hml]; rfl) (W := 1) rfl (by decide) (by decide) (by decide) (by decide) (hb hby at_115) rfl ?_
     intro T24 v24 L24 X24 q24
     obtain ⟨rfl, M24, K24, E24, F24_0, F24_1⟩ := q24
     have N24 := Fr.app N22 M24
     show Run p e below s _ _ _ (T24.setTop (mkF m 118 #[.val (.int p1), .val (.int p2), .val (.int p3), .val (.int p4), .val (.int p5), .val (.int p6), .val (.int k0), .val (.int k1), .val (.int k2), .val (.ref b1), .val (.int 1), .val (.int 1), z12, .val (.int wd), .val (.ref sb22), .unset, .unset, .unset] [(.ref b23)]))
     replace S_COMPACT_STRINGS := S_COMPACT_STRINGS.ext E23
     replace S_COMPACT_STRINGS := Sta_keep S_COMPACT_STRINGS K24 (allS (Exa_ns E_b23) all0)
     replace S_SIOOBE_FORMATTER := S_SIOOBE_FORMATTER.ext E23
     replace S_SIOOBE_FORMATTER := Sta_keep S_SIOOBE_FORMATTER K24 (allS (Exa_ns E_b23) all0)
     replace S__assertionsDisabled := S__assertionsDisabled.ext E23
     replace S__assertionsDisabled := Sta_keep S__assertionsDisabled K24 (allS (Exa_ns E_b23) all0)
     replace S_HI_BYTE_SHIFT := S_HI_BYTE_SHIFT.ext E23
     replace S_HI_BYTE_SHIFT := Sta_keep S_HI_BYTE_SHIFT K24 (allS (Exa_ns E_b23) all0)
     replace S_LO_BYTE_SHIFT := S_LO_BYTE_SHIFT.ext E23
     replace S_LO_BYTE_SHIFT := Sta_keep S_LO_BYTE_SHIFT K24 (allS (Exa_ns E_b23) all0)
     have Z24 : n0 ≤ T24.heap.size := Nat.le_trans Z23 K24.1
     replace KP := KP.trans K24 (allS (Or.inr sz_b23) all0)
     refine Run.x_astore (q := 120) X24 hx #[.val (.int p1), .val (.int p2), .val (.int p3), .val (.int p4), .val (.int p5), .val (.int p6), .val (.int k0), .val (.int k1), .val (.int k2), .val (.ref b1), .val (.int 1), .val (.int 1), z12, .val (.int wd), .val (.ref sb22), .val (.ref b23), .unset, .unset] (hb hby at_118) rfl rfl rfl ?_
     refine Run.x_aload (q := 122) X24 hx (hb hby at_120) rfl rfl rfl ?_
     refine Run.x_iload (q := 124) X24 hx (hb hby at_122) rfl rfl ?_
     replace E_b23 := E_b23.keep K24
     obtain ⟨T25, h25, X25, e25, W25, st25⟩ := putF X24 hx hZ hown (host := "") (Or.inl (wm44 hw)) Via.refl rfl F24_1 E_b23 (Or.inl (wm45 hw)) (wm36 hw) (ty := .int) (by decide) rfl rfl (g := (mkF m 124 #[.val (.int p1), .val (.int p2), .val (.int p3), .val (.int p4), .val (.int p5), .val (.int p6), .val (.int k0), .val (.int k1), .val (.int k2), .val (.ref b1), .val (.int 1), .val (.int 1), z12, .val (.int wd), .val (.ref sb22), .val (.ref b23), .unset, .unset] [(.int 1), (.ref b23)])) rfl rfl (hb hby at_124)
     replace F24_1 := F24_1.same W25
     have Z25 : n0 ≤ h25.size := Nat.le_trans Z24 (Nat.le_of_eq W25.size.symm)
     replace KP := KP.wr W25 (Or.inr sz_b23)
     have N25 := Fr.snoc X25 N24 g_b23
     refine Run.st st25 ?_
     show Run p e below s _ _ _ (T25.setTop (mkF m 127 #[.val (.int p1), .val (.int p2), .val (.int p3), .val (.int p4), .val (.int p5), .val (.int p6), .val (.int k0), .val (.int k1), .val (.int k2), .val (.ref b1), .val (.int 1), .val (.int 1), z12, .val (.int wd), .val (.ref sb22), .val (.ref b23), .unset, .unset] []))
     refine Run.x_iload (q := 129) X25 hx (hb hby at_127) rfl rfl ?_
     refine Run.x_iload (q := 131) X25 hx (hb hby at_129) rfl rfl ?_
     refine Run.x_icmpYes (q := 154) X25 hx (hb hby at_131) (flt (by decide : ¬ ((1 : Int32) < (1 : Int32)))).2.1 (by decide) (by decide) ?_
     refine Run.x_iconst (q := 155) X25 hx (hb hby at_154) (z := (0 : Int32)) rfl rfl ?_
     refine Run.x_istore (q := 157) X25 hx #[.val (.int p1), .val (.int p2), .val (.int p3), .val (.int p4), .val (.int p5), .val (.int p6), .val (.int k0), .val (.int k1), .val (.int k2), .val (.ref b1), .val (.int 1), .val (.int 1), z12, .val (.int wd), .val (.ref sb22), .val (.ref b23), .val (.int 0), .unset] (hb hby at_155) rfl rfl ?_
     refine Run.x_aload (q := 159) X25 hx (hb hby at_157) rfl rfl rfl ?_
     refine Run.x_iload (q := 161) X25 hx (hb hby at_159) rfl rfl ?_
     replace E_b23 := E_b23.wr W25
     replace F24_0 := F24_0.other W25 (Or.inr (slot_ne (Or.inr (wm43 hw)) (Or.inl (wm45 hw)) (by decide) (t := (.object "java/lang/String")) (t' := .int) (by decide) (by decide)))
     replace Es22 := ((Es22.ext E23).keep K24).wr W25
     replace Fc22 := ((Fc22.ext E23).keep K24 (ninS ne_sb22_b23 nin0)).other W25 (Or.inl ne_sb22_b23)
     replace Fv22 := ((Fv22.ext E23).keep K24 (ninS ne_sb22_b23 nin0)).other W25 (Or.inl ne_sb22_b23)
     replace Ab22 := ((Ab22.ext E23).keep K24 (ninS ne_bts22_b23 nin0)).other W25 ne_bts22_b23
     replace S_COMPACT_STRINGS := S_COMPACT_STRINGS.wr W25
     refine Run.callVI (q := 164) X25 hx hZ e25 (y := (⟨"com/example/sayso/sayso/TextCursor", "at", "(C)Z"⟩ : MethodName)) (z := (⟨"com/example/sayso/sayso/TextCursor", "at", "(C)Z"⟩ : MethodName)) hown (wm46 hw) (wm47 hw) (notFace_of_selects (args := #[]) (mvT hZ (wm49 hw))) (wm49 hw) (wm48 hw) (wm37 hw) (wm50 hw) (by decide) (a := b23) E_b23 (argsL := [(.int wd)]) (rest := []) (c_atg1 l Z a0 hw b23 wd h25 n0 Z25 (1 : Int32) (1 : Int32) sb22 cp bts22 [(.int (k0 >>> ((0 : Int32) &&& 31)).toInt8.toInt32), (.int (k0 >>> ((8 : Int32) &&& 31)).toInt8.toInt32)] (2 : Int32) E_b23 F24_1 F24_0 Es22 Fc22 Fv22 Ab22 S_COMPACT_STRINGS hcp rfl (by decide) (by decide)) pd_19 rfl (by rw [hml]; rfl) (W := 0) rfl (by decide) (by decide) (by decide) (by decide) (hb hby at_161) rfl rfl fun T26 L26 X26 M26 e26 => ?_
     have N26 := Fr.app N25 M26
     refine Run.x_istore (q := 166) X26 hx #[.val (.int p1), .val (.int p2), .val (.int p3), .val (.int p4), .val (.int p5), .val (.int p6), .val (.int k0), .val (.int k1), .val (.int k2), .val (.ref b1), .val (.int 1), .val (.int 1), z12, .val (.int wd), .val (.ref sb22), .val (.ref b23), .val (.int 0), .val (.int 0)] (hb hby at_164) rfl rfl ?_
     refine Run.x_iload (q := 168) X26 hx (hb hby at_166) rfl rfl ?_
     refine Run.x_iload (q := 170) X26 hx (hb hby at_168) rfl rfl ?_
     refine Run.x_icmpNo (q := 173) X26 hx (hb hby at_170) (teq (by decide : (0 : Int32) = (0 : Int32))).2 rfl ?_
     refine Run.x_aload (q := 175) X26 hx (hb hby at_173) rfl rfl rfl ?_
     refine Run.z_getF (q := 178) X26 hx hZ e26 hown (wm44 hw) F24_1 (hb hby at_175) rfl fun T27 X27 e27 => ?_
     refine Run.x_iload (q := 180) X27 hx (hb hby at_178) rfl rfl ?_
     refine Run.x_icmpNo (q := 183) X27 hx (hb hby at_180) (teq (by decide : (1 : Int32) = (1 : Int32))).2 rfl ?_
     refine Run.x_aload (q := 185) X27 hx (hb hby at_183) rfl rfl rfl ?_
     refine Run.z_getF (q := 188) X27 hx hZ e27 hown (wm84 hw) F24_0 (hb hby at_185) rfl fun T28 X28 e28 => ?_
     refine Run.x_aload (q := 190) X28 hx (hb hby at_188) rfl rfl rfl ?_
     refine Run.st (B := T28.setTop (mkF m 193 #[.val (.int p1), .val (.int p2), .val (.int p3), .val (.int p4), .val (.int p5), .val (.int p6), .val (.int k0), .val (.int k1), .val (.int k2), .val (.ref b1), .val (.int 1), .val (.int 1), z12, .val (.int wd), .val (.ref sb22), .val (.ref b23), .val (.int 0), .val (.int 0)] [])) (fun t kt => Jvm.RoadKit.acmp (g := (mkF m 190 #[.val (.int p1), .val (.int p2), .val (.int p3), .val (.int p4), .val (.int p5), .val (.int p6), .val (.int k0), .val (.int k1), .val (.int k2), .val (.ref b1), .val (.int 1), .val (.int 1), z12, .val (.int wd), .val (.ref sb22), .val (.ref b23), .val (.int 0), .val (.int 0)] [(.ref sb22), (.ref sb22)])) X28 hx rfl rfl rfl (pc0 := 190) (pc' := 193) (same := true) rfl (hb hby at_190) rfl (decide_eq_true rfl) (by decide) (by decide) kt) ?_
     refine Run.x_iconst (q := 194) X28 hx (hb hby at_193) (z := (1 : Int32)) rfl rfl ?_
     refine Run.x_goto (q := 198) X28 hx (hb hby at_194) (by decide) (by decide) ?_
     refine Run.retN X28 hx hlk e28 (t := .boolean) hret (by simp) (z' := (1 : Int32)) (by decide) (hb hby at_198) (by decide) (by decide) ?_
     exact ⟨rfl, N26⟩
   ·skip
    have ha0 : ¬ (255 : Int32) < k0 := fun q => hA q
    rcases own_s1 hpp with rfl | rfl
    ·skip
     show Run p e below s _ _ _ (T4.setTop (mkF m 96 #[.val (.int p1), .val (.int p2), .val (.int p3), .val (.int p4), .val (.int p5), .val (.int p6), .val (.int k0), .val (.int k1), .val (.int k2), .val (.ref b1), .val (.int 1), .val (.int 0), z12, .val (.int wd), .unset, .unset, .unset, .unset] []))
     refine Run.x_iload (q := 98) X4 hx (hb hby at_96) rfl rfl ?_
     refine Run.x_iload (q := 100) X4 hx (hb hby at_98) rfl rfl ?_
     refine Run.x_iload (q := 102) X4 hx (hb hby at_100) rfl rfl ?_
     refine Run.x_iload (q := 104) X4 hx (hb hby at_102) rfl rfl ?_
     replace S_COMPACT_STRINGS := (((S_COMPACT_STRINGS.ext E1).wr W2).wr W3).wr W4
     refine Run.callS X4 hx hZ e4 (y := (⟨"com/example/sayso/sayso/TextCursorAtPinLaw", "make", "(ICCC)Ljava/lang/String;"⟩ : MethodName)) hown (wm2 hw) (wm3 hw) (wm4 hw) (wm5 hw) (by decide) (argsL := [(.int 1), (.int k0), (.int k1), (.int k2)]) (rest := []) (c_mk_1_0 l Z a0 hw k0 k1 k2 h4 n0 Z4 cp S_COMPACT_STRINGS hcp ha0 rk0 rk1 rk2) pd_17 rfl (by rw [hml]; rfl) (W := 0) rfl (by decide) (by decide) (by decide) (by decide) (hb hby at_104) rfl ?_
     intro T29 v29 L29 X29 q29
     obtain ⟨sb29, bts29, rfl, M29, K29, sz29, Es29, Fv29, Fc29, Ab29⟩ := q29
     have N29 := Fr.app N4 M29
     show Run p e below s _ _ _ (T29.setTop (mkF m 107 #[.val (.int p1), .val (.int p2), .val (.int p3), .val (.int p4), .val (.int p5), .val (.int p6), .val (.int k0), .val (.int k1), .val (.int k2), .val (.ref b1), .val (.int 1), .val (.int 0), z12, .val (.int wd), .unset, .unset, .unset, .unset] [(.ref sb29)]))
     have ne_b1_sb29 : b1 ≠ sb29 := Nat.ne_of_lt (Nat.lt_of_lt_of_le A_b1.lt sz29)
     replace S_COMPACT_STRINGS := Sta_keep S_COMPACT_STRINGS K29 all0
     replace S_SIOOBE_FORMATTER := (((S_SIOOBE_FORMATTER.ext E1).wr W2).wr W3).wr W4
     replace S_SIOOBE_FORMATTER := Sta_keep S_SIOOBE_FORMATTER K29 all0
     replace S__assertionsDisabled := (((S__assertionsDisabled.ext E1).wr W2).wr W3).wr W4
     replace S__assertionsDisabled := Sta_keep S__assertionsDisabled K29 all0
     replace S_HI_BYTE_SHIFT := (((S_HI_BYTE_SHIFT.ext E1).wr W2).wr W3).wr W4
     replace S_HI_BYTE_SHIFT := Sta_keep S_HI_BYTE_SHIFT K29 all0
     replace S_LO_BYTE_SHIFT := (((S_LO_BYTE_SHIFT.ext E1).wr W2).wr W3).wr W4
     replace S_LO_BYTE_SHIFT := Sta_keep S_LO_BYTE_SHIFT K29 all0
     have Z29 : n0 ≤ T29.heap.size := Nat.le_trans Z4 K29.1
     replace KP := KP.trans K29 all0
     refine Run.x_astore (q := 109) X29 hx #[.val (.int p1), .val (.int p2), .val (.int p3), .val (.int p4), .val (.int p5), .val (.int p6), .val (.int k0), .val (.int k1), .val (.int k2), .val (.ref b1), .val (.int 1), .val (.int 0), z12, .val (.int wd), .val (.ref sb29), .unset, .unset, .unset] (hb hby at_107) rfl rfl rfl ?_
     obtain ⟨T30, h30, X30, e30, E30, A30, D30, -, st30⟩ := newO X29 hx hZ hown (wm35 hw) (wm36 hw) (wm37 hw) rfl (g := (mkF m 109 #[.val (.int p1), .val (.int p2), .val (.int p3), .val (.int p4), .val (.int p5), .val (.int p6), .val (.int k0), .val (.int k1), .val (.int k2), .val (.ref b1), .val (.int 1), .val (.int 0), z12, .val (.int wd), .val (.ref sb29), .unset, .unset, .unset] [])) rfl (hb hby at_109) (by decide) (by decide)
     obtain ⟨b30, gg30⟩ : ∃ z, z = T29.heap.size := ⟨_, rfl⟩
     rw [← gg30] at A30 D30 st30
     have g_b30 : n0 ≤ b30 := Nat.le_trans Z29 (Nat.le_of_eq gg30.symm)
     replace A_b1 := A_b1.keep K29 nin0
     have ne_b1_b30 : b1 ≠ b30 := Nat.ne_of_lt (Nat.lt_of_lt_of_le A_b1.lt (Nat.le_of_eq gg30.symm))
     have ne_sb29_b30 : sb29 ≠ b30 := Nat.ne_of_lt (Nat.lt_of_lt_of_le Es29.lt (Nat.le_of_eq gg30.symm))
     have ne_bts29_b30 : bts29 ≠ b30 := Nat.ne_of_lt (Nat.lt_of_lt_of_le Ab29.lt (Nat.le_of_eq gg30.symm))
     have sz_b30 : h0.size ≤ b30 := Nat.le_trans KP.1 (Nat.le_of_eq gg30.symm)
     have Z30 : n0 ≤ h30.size := Nat.le_trans Z29 E30.1
     replace KP := KP.ext E30
     have E_b30 := A30
     have F_b30_text : Fld Z h30 b30 "com/example/sayso/sayso/TextCursor" "text" "Ljava/lang/String;" .null := D30 (Or.inr (wm43 hw)) (ty := (.object "java/lang/String")) (by decide)
     have F_b30_position : Fld Z h30 b30 "com/example/sayso/sayso/TextCursor" "position" "I" (.int 0) := D30 (Or.inl (wm45 hw)) (ty := .int) (by decide)
     refine Run.st st30 ?_
     show Run p e below s _ _ _ (T30.setTop (mkF m 112 #[.val (.int p1), .val (.int p2), .val (.int p3), .val (.int p4), .val (.int p5), .val (.int p6), .val (.int k0), .val (.int k1), .val (.int k2), .val (.ref b1), .val (.int 1), .val (.int 0), z12, .val (.int wd), .val (.ref sb29), .unset, .unset, .unset] [(.ref b30)]))
     refine Run.x_dup (q := 113) X30 hx (hb hby at_112) rfl rfl ?_
     refine Run.x_aload (q := 115) X30 hx (hb hby at_113) rfl rfl rfl ?_
     refine Run.callC X30 hx hZ e30 (y := (⟨"com/example/sayso/sayso/TextCursor", "<init>", "(Ljava/lang/String;)V"⟩ : MethodName)) hown rfl (wm38 hw) (wm39 hw) (wm37 hw) (wm40 hw) (by decide) (a := b30) (argsL := [(.ref sb29)]) (rest := [(.ref b30)]) (c_tci l Z a0 hw b30 sb29 h30 n0 Z30 E_b30 F_b30_text F_b30_position g_b30) pd_18 rfl (by rw [hml]; rfl) (W := 1) rfl (by decide) (by decide) (by decide) (by decide) (hb hby at_115) rfl ?_
     intro T31 v31 L31 X31 q31
     obtain ⟨rfl, M31, K31, E31, F31_0, F31_1⟩ := q31
     have N31 := Fr.app N29 M31
     show Run p e below s _ _ _ (T31.setTop (mkF m 118 #[.val (.int p1), .val (.int p2), .val (.int p3), .val (.int p4), .val (.int p5), .val (.int p6), .val (.int k0), .val (.int k1), .val (.int k2), .val (.ref b1), .val (.int 1), .val (.int 0), z12, .val (.int wd), .val (.ref sb29), .unset, .unset, .unset] [(.ref b30)]))
     replace S_COMPACT_STRINGS := S_COMPACT_STRINGS.ext E30
     replace S_COMPACT_STRINGS := Sta_keep S_COMPACT_STRINGS K31 (allS (Exa_ns E_b30) all0)
     replace S_SIOOBE_FORMATTER := S_SIOOBE_FORMATTER.ext E30
     replace S_SIOOBE_FORMATTER := Sta_keep S_SIOOBE_FORMATTER K31 (allS (Exa_ns E_b30) all0)
     replace S__assertionsDisabled := S__assertionsDisabled.ext E30
     replace S__assertionsDisabled := Sta_keep S__assertionsDisabled K31 (allS (Exa_ns E_b30) all0)
     replace S_HI_BYTE_SHIFT := S_HI_BYTE_SHIFT.ext E30
     replace S_HI_BYTE_SHIFT := Sta_keep S_HI_BYTE_SHIFT K31 (allS (Exa_ns E_b30) all0)
     replace S_LO_BYTE_SHIFT := S_LO_BYTE_SHIFT.ext E30
     replace S_LO_BYTE_SHIFT := Sta_keep S_LO_BYTE_SHIFT K31 (allS (Exa_ns E_b30) all0)
     have Z31 : n0 ≤ T31.heap.size := Nat.le_trans Z30 K31.1
     replace KP := KP.trans K31 (allS (Or.inr sz_b30) all0)
     refine Run.x_astore (q := 120) X31 hx #[.val (.int p1), .val (.int p2), .val (.int p3), .val (.int p4), .val (.int p5), .val (.int p6), .val (.int k0), .val (.int k1), .val (.int k2), .val (.ref b1), .val (.int 1), .val (.int 0), z12, .val (.int wd), .val (.ref sb29), .val (.ref b30), .unset, .unset] (hb hby at_118) rfl rfl rfl ?_
     refine Run.x_aload (q := 122) X31 hx (hb hby at_120) rfl rfl rfl ?_
     refine Run.x_iload (q := 124) X31 hx (hb hby at_122) rfl rfl ?_
     replace E_b30 := E_b30.keep K31
     obtain ⟨T32, h32, X32, e32, W32, st32⟩ := putF X31 hx hZ hown (host := "") (Or.inl (wm44 hw)) Via.refl rfl F31_1 E_b30 (Or.inl (wm45 hw)) (wm36 hw) (ty := .int) (by decide) rfl rfl (g := (mkF m 124 #[.val (.int p1), .val (.int p2), .val (.int p3), .val (.int p4), .val (.int p5), .val (.int p6), .val (.int k0), .val (.int k1), .val (.int k2), .val (.ref b1), .val (.int 1), .val (.int 0), z12, .val (.int wd), .val (.ref sb29), .val (.ref b30), .unset, .unset] [(.int 0), (.ref b30)])) rfl rfl (hb hby at_124)
     replace F31_1 := F31_1.same W32
     have Z32 : n0 ≤ h32.size := Nat.le_trans Z31 (Nat.le_of_eq W32.size.symm)
     replace KP := KP.wr W32 (Or.inr sz_b30)
     have N32 := Fr.snoc X32 N31 g_b30
     refine Run.st st32 ?_
     show Run p e below s _ _ _ (T32.setTop (mkF m 127 #[.val (.int p1), .val (.int p2), .val (.int p3), .val (.int p4), .val (.int p5), .val (.int p6), .val (.int k0), .val (.int k1), .val (.int k2), .val (.ref b1), .val (.int 1), .val (.int 0), z12, .val (.int wd), .val (.ref sb29), .val (.ref b30), .unset, .unset] []))
     refine Run.x_iload (q := 129) X32 hx (hb hby at_127) rfl rfl ?_
     refine Run.x_iload (q := 131) X32 hx (hb hby at_129) rfl rfl ?_
     refine Run.x_icmpNo (q := 134) X32 hx (hb hby at_131) (tlt (by decide : (0 : Int32) < (1 : Int32))).2.1 rfl ?_
     refine Run.x_aload (q := 136) X32 hx (hb hby at_134) rfl rfl rfl ?_
     refine Run.x_iload (q := 138) X32 hx (hb hby at_136) rfl rfl ?_
     replace A_b1 := ((A_b1.ext E30).keep K31 (ninS ne_b1_b30 nin0)).other W32 ne_b1_b30
     refine Run.y_ldC (q := 139) X32 hx hZ e32 A_b1 (i := 0) (v := (.int k0)) (by decide) rfl (hb hby at_138) rfl ?_
     refine Run.x_iload (q := 141) X32 hx (hb hby at_139) rfl rfl ?_
     by_cases hc141 : k0 = wd
     ·skip
      refine Run.x_icmpNo (q := 144) X32 hx (hb hby at_141) (teq hc141).2 rfl ?_
      refine Run.x_iconst (q := 145) X32 hx (hb hby at_144) (z := (1 : Int32)) rfl rfl ?_
      refine Run.x_goto (q := 149) X32 hx (hb hby at_145) (by decide) (by decide) ?_
      refine Run.x_istore (q := 151) X32 hx #[.val (.int p1), .val (.int p2), .val (.int p3), .val (.int p4), .val (.int p5), .val (.int p6), .val (.int k0), .val (.int k1), .val (.int k2), .val (.ref b1), .val (.int 1), .val (.int 0), z12, .val (.int wd), .val (.ref sb29), .val (.ref b30), .val (.int 1), .unset] (hb hby at_149) rfl rfl ?_
      refine Run.x_goto (q := 157) X32 hx (hb hby at_151) (by decide) (by decide) ?_
      refine Run.x_aload (q := 159) X32 hx (hb hby at_157) rfl rfl rfl ?_
      refine Run.x_iload (q := 161) X32 hx (hb hby at_159) rfl rfl ?_
      replace E_b30 := E_b30.wr W32
      replace F31_0 := F31_0.other W32 (Or.inr (slot_ne (Or.inr (wm43 hw)) (Or.inl (wm45 hw)) (by decide) (t := (.object "java/lang/String")) (t' := .int) (by decide) (by decide)))
      replace Es29 := ((Es29.ext E30).keep K31).wr W32
      replace Fc29 := ((Fc29.ext E30).keep K31 (ninS ne_sb29_b30 nin0)).other W32 (Or.inl ne_sb29_b30)
      replace Fv29 := ((Fv29.ext E30).keep K31 (ninS ne_sb29_b30 nin0)).other W32 (Or.inl ne_sb29_b30)
      replace Ab29 := ((Ab29.ext E30).keep K31 (ninS ne_bts29_b30 nin0)).other W32 ne_bts29_b30
      replace S_COMPACT_STRINGS := S_COMPACT_STRINGS.wr W32
      replace S_SIOOBE_FORMATTER := S_SIOOBE_FORMATTER.wr W32
      refine Run.callVI (q := 164) X32 hx hZ e32 (y := (⟨"com/example/sayso/sayso/TextCursor", "at", "(C)Z"⟩ : MethodName)) (z := (⟨"com/example/sayso/sayso/TextCursor", "at", "(C)Z"⟩ : MethodName)) hown (wm46 hw) (wm47 hw) (notFace_of_selects (args := #[]) (mvT hZ (wm49 hw))) (wm49 hw) (wm48 hw) (wm37 hw) (wm50 hw) (by decide) (a := b30) E_b30 (argsL := [(.int wd)]) (rest := []) (c_atl0 l Z a0 hw b30 wd h32 n0 Z32 (0 : Int32) (1 : Int32) sb29 cp bts29 [(.int k0.toInt8.toInt32)] (1 : Int32) sf 0 k0.toInt8.toInt32 k0 E_b30 F31_1 F31_0 Es29 Fc29 Fv29 Ab29 S_COMPACT_STRINGS S_SIOOBE_FORMATTER hcp (by decide) (by decide) hsf rfl (by decide) rfl (by decide) (by decide) (own_lat rk0 ha0) (own_nr rk0)) pd_19 rfl (by rw [hml]; rfl) (W := 0) rfl (by decide) (by decide) (by decide) (by decide) (hb hby at_161) rfl rfl fun T33 L33 X33 M33 e33 => ?_
      have N33 := Fr.app N32 M33
      refine Run.x_istore (q := 166) X33 hx #[.val (.int p1), .val (.int p2), .val (.int p3), .val (.int p4), .val (.int p5), .val (.int p6), .val (.int k0), .val (.int k1), .val (.int k2), .val (.ref b1), .val (.int 1), .val (.int 0), z12, .val (.int wd), .val (.ref sb29), .val (.ref b30), .val (.int 1), .val (.int (own_b (k0 = wd)))] (hb hby at_164) rfl rfl ?_
      refine Run.x_iload (q := 168) X33 hx (hb hby at_166) rfl rfl ?_
      refine Run.x_iload (q := 170) X33 hx (hb hby at_168) rfl rfl ?_
      refine Run.x_icmpNo (q := 173) X33 hx (hb hby at_170) (teq (own_b1 hc141)).2 rfl ?_
      refine Run.x_aload (q := 175) X33 hx (hb hby at_173) rfl rfl rfl ?_
      refine Run.z_getF (q := 178) X33 hx hZ e33 hown (wm44 hw) F31_1 (hb hby at_175) rfl fun T34 X34 e34 => ?_
      refine Run.x_iload (q := 180) X34 hx (hb hby at_178) rfl rfl ?_
      refine Run.x_icmpNo (q := 183) X34 hx (hb hby at_180) (teq (by decide : (0 : Int32) = (0 : Int32))).2 rfl ?_
      refine Run.x_aload (q := 185) X34 hx (hb hby at_183) rfl rfl rfl ?_
      refine Run.z_getF (q := 188) X34 hx hZ e34 hown (wm84 hw) F31_0 (hb hby at_185) rfl fun T35 X35 e35 => ?_
      refine Run.x_aload (q := 190) X35 hx (hb hby at_188) rfl rfl rfl ?_
      refine Run.st (B := T35.setTop (mkF m 193 #[.val (.int p1), .val (.int p2), .val (.int p3), .val (.int p4), .val (.int p5), .val (.int p6), .val (.int k0), .val (.int k1), .val (.int k2), .val (.ref b1), .val (.int 1), .val (.int 0), z12, .val (.int wd), .val (.ref sb29), .val (.ref b30), .val (.int 1), .val (.int (own_b (k0 = wd)))] [])) (fun t kt => Jvm.RoadKit.acmp (g := (mkF m 190 #[.val (.int p1), .val (.int p2), .val (.int p3), .val (.int p4), .val (.int p5), .val (.int p6), .val (.int k0), .val (.int k1), .val (.int k2), .val (.ref b1), .val (.int 1), .val (.int 0), z12, .val (.int wd), .val (.ref sb29), .val (.ref b30), .val (.int 1), .val (.int (own_b (k0 = wd)))] [(.ref sb29), (.ref sb29)])) X35 hx rfl rfl rfl (pc0 := 190) (pc' := 193) (same := true) rfl (hb hby at_190) rfl (decide_eq_true rfl) (by decide) (by decide) kt) ?_
      refine Run.x_iconst (q := 194) X35 hx (hb hby at_193) (z := (1 : Int32)) rfl rfl ?_
      refine Run.x_goto (q := 198) X35 hx (hb hby at_194) (by decide) (by decide) ?_
      refine Run.retN X35 hx hlk e35 (t := .boolean) hret (by simp) (z' := (1 : Int32)) (by decide) (hb hby at_198) (by decide) (by decide) ?_
      exact ⟨rfl, N33⟩
     ·skip
      refine Run.x_icmpYes (q := 148) X32 hx (hb hby at_141) (feq hc141).2 (by decide) (by decide) ?_
      refine Run.x_iconst (q := 149) X32 hx (hb hby at_148) (z := (0 : Int32)) rfl rfl ?_
      refine Run.x_istore (q := 151) X32 hx #[.val (.int p1), .val (.int p2), .val (.int p3), .val (.int p4), .val (.int p5), .val (.int p6), .val (.int k0), .val (.int k1), .val (.int k2), .val (.ref b1), .val (.int 1), .val (.int 0), z12, .val (.int wd), .val (.ref sb29), .val (.ref b30), .val (.int 0), .unset] (hb hby at_149) rfl rfl ?_
      refine Run.x_goto (q := 157) X32 hx (hb hby at_151) (by decide) (by decide) ?_
      refine Run.x_aload (q := 159) X32 hx (hb hby at_157) rfl rfl rfl ?_
      refine Run.x_iload (q := 161) X32 hx (hb hby at_159) rfl rfl ?_
      replace E_b30 := E_b30.wr W32
      replace F31_0 := F31_0.other W32 (Or.inr (slot_ne (Or.inr (wm43 hw)) (Or.inl (wm45 hw)) (by decide) (t := (.object "java/lang/String")) (t' := .int) (by decide) (by decide)))
      replace Es29 := ((Es29.ext E30).keep K31).wr W32
      replace Fc29 := ((Fc29.ext E30).keep K31 (ninS ne_sb29_b30 nin0)).other W32 (Or.inl ne_sb29_b30)
      replace Fv29 := ((Fv29.ext E30).keep K31 (ninS ne_sb29_b30 nin0)).other W32 (Or.inl ne_sb29_b30)
      replace Ab29 := ((Ab29.ext E30).keep K31 (ninS ne_bts29_b30 nin0)).other W32 ne_bts29_b30
      replace S_COMPACT_STRINGS := S_COMPACT_STRINGS.wr W32
      replace S_SIOOBE_FORMATTER := S_SIOOBE_FORMATTER.wr W32
      refine Run.callVI (q := 164) X32 hx hZ e32 (y := (⟨"com/example/sayso/sayso/TextCursor", "at", "(C)Z"⟩ : MethodName)) (z := (⟨"com/example/sayso/sayso/TextCursor", "at", "(C)Z"⟩ : MethodName)) hown (wm46 hw) (wm47 hw) (notFace_of_selects (args := #[]) (mvT hZ (wm49 hw))) (wm49 hw) (wm48 hw) (wm37 hw) (wm50 hw) (by decide) (a := b30) E_b30 (argsL := [(.int wd)]) (rest := []) (c_atl0 l Z a0 hw b30 wd h32 n0 Z32 (0 : Int32) (1 : Int32) sb29 cp bts29 [(.int k0.toInt8.toInt32)] (1 : Int32) sf 0 k0.toInt8.toInt32 k0 E_b30 F31_1 F31_0 Es29 Fc29 Fv29 Ab29 S_COMPACT_STRINGS S_SIOOBE_FORMATTER hcp (by decide) (by decide) hsf rfl (by decide) rfl (by decide) (by decide) (own_lat rk0 ha0) (own_nr rk0)) pd_19 rfl (by rw [hml]; rfl) (W := 0) rfl (by decide) (by decide) (by decide) (by decide) (hb hby at_161) rfl rfl fun T36 L36 X36 M36 e36 => ?_
      have N36 := Fr.app N32 M36
      refine Run.x_istore (q := 166) X36 hx #[.val (.int p1), .val (.int p2), .val (.int p3), .val (.int p4), .val (.int p5), .val (.int p6), .val (.int k0), .val (.int k1), .val (.int k2), .val (.ref b1), .val (.int 1), .val (.int 0), z12, .val (.int wd), .val (.ref sb29), .val (.ref b30), .val (.int 0), .val (.int (own_b (k0 = wd)))] (hb hby at_164) rfl rfl ?_
      refine Run.x_iload (q := 168) X36 hx (hb hby at_166) rfl rfl ?_
      refine Run.x_iload (q := 170) X36 hx (hb hby at_168) rfl rfl ?_
      refine Run.x_icmpNo (q := 173) X36 hx (hb hby at_170) (teq (own_b0 hc141)).2 rfl ?_
      refine Run.x_aload (q := 175) X36 hx (hb hby at_173) rfl rfl rfl ?_
      refine Run.z_getF (q := 178) X36 hx hZ e36 hown (wm44 hw) F31_1 (hb hby at_175) rfl fun T37 X37 e37 => ?_
      refine Run.x_iload (q := 180) X37 hx (hb hby at_178) rfl rfl ?_
      refine Run.x_icmpNo (q := 183) X37 hx (hb hby at_180) (teq (by decide : (0 : Int32) = (0 : Int32))).2 rfl ?_
      refine Run.x_aload (q := 185) X37 hx (hb hby at_183) rfl rfl rfl ?_
      refine Run.z_getF (q := 188) X37 hx hZ e37 hown (wm84 hw) F31_0 (hb hby at_185) rfl fun T38 X38 e38 => ?_
      refine Run.x_aload (q := 190) X38 hx (hb hby at_188) rfl rfl rfl ?_
      refine Run.st (B := T38.setTop (mkF m 193 #[.val (.int p1), .val (.int p2), .val (.int p3), .val (.int p4), .val (.int p5), .val (.int p6), .val (.int k0), .val (.int k1), .val (.int k2), .val (.ref b1), .val (.int 1), .val (.int 0), z12, .val (.int wd), .val (.ref sb29), .val (.ref b30), .val (.int 0), .val (.int (own_b (k0 = wd)))] [])) (fun t kt => Jvm.RoadKit.acmp (g := (mkF m 190 #[.val (.int p1), .val (.int p2), .val (.int p3), .val (.int p4), .val (.int p5), .val (.int p6), .val (.int k0), .val (.int k1), .val (.int k2), .val (.ref b1), .val (.int 1), .val (.int 0), z12, .val (.int wd), .val (.ref sb29), .val (.ref b30), .val (.int 0), .val (.int (own_b (k0 = wd)))] [(.ref sb29), (.ref sb29)])) X38 hx rfl rfl rfl (pc0 := 190) (pc' := 193) (same := true) rfl (hb hby at_190) rfl (decide_eq_true rfl) (by decide) (by decide) kt) ?_
      refine Run.x_iconst (q := 194) X38 hx (hb hby at_193) (z := (1 : Int32)) rfl rfl ?_
      refine Run.x_goto (q := 198) X38 hx (hb hby at_194) (by decide) (by decide) ?_
      refine Run.retN X38 hx hlk e38 (t := .boolean) hret (by simp) (z' := (1 : Int32)) (by decide) (hb hby at_198) (by decide) (by decide) ?_
      exact ⟨rfl, N36⟩
    ·skip
     show Run p e below s _ _ _ (T4.setTop (mkF m 96 #[.val (.int p1), .val (.int p2), .val (.int p3), .val (.int p4), .val (.int p5), .val (.int p6), .val (.int k0), .val (.int k1), .val (.int k2), .val (.ref b1), .val (.int 1), .val (.int 1), z12, .val (.int wd), .unset, .unset, .unset, .unset] []))
     refine Run.x_iload (q := 98) X4 hx (hb hby at_96) rfl rfl ?_
     refine Run.x_iload (q := 100) X4 hx (hb hby at_98) rfl rfl ?_
     refine Run.x_iload (q := 102) X4 hx (hb hby at_100) rfl rfl ?_
     refine Run.x_iload (q := 104) X4 hx (hb hby at_102) rfl rfl ?_
     replace S_COMPACT_STRINGS := (((S_COMPACT_STRINGS.ext E1).wr W2).wr W3).wr W4
     refine Run.callS X4 hx hZ e4 (y := (⟨"com/example/sayso/sayso/TextCursorAtPinLaw", "make", "(ICCC)Ljava/lang/String;"⟩ : MethodName)) hown (wm2 hw) (wm3 hw) (wm4 hw) (wm5 hw) (by decide) (argsL := [(.int 1), (.int k0), (.int k1), (.int k2)]) (rest := []) (c_mk_1_0 l Z a0 hw k0 k1 k2 h4 n0 Z4 cp S_COMPACT_STRINGS hcp ha0 rk0 rk1 rk2) pd_17 rfl (by rw [hml]; rfl) (W := 0) rfl (by decide) (by decide) (by decide) (by decide) (hb hby at_104) rfl ?_
     intro T39 v39 L39 X39 q39
     obtain ⟨sb39, bts39, rfl, M39, K39, sz39, Es39, Fv39, Fc39, Ab39⟩ := q39
     have N39 := Fr.app N4 M39
     show Run p e below s _ _ _ (T39.setTop (mkF m 107 #[.val (.int p1), .val (.int p2), .val (.int p3), .val (.int p4), .val (.int p5), .val (.int p6), .val (.int k0), .val (.int k1), .val (.int k2), .val (.ref b1), .val (.int 1), .val (.int 1), z12, .val (.int wd), .unset, .unset, .unset, .unset] [(.ref sb39)]))
     have ne_b1_sb39 : b1 ≠ sb39 := Nat.ne_of_lt (Nat.lt_of_lt_of_le A_b1.lt sz39)
     replace S_COMPACT_STRINGS := Sta_keep S_COMPACT_STRINGS K39 all0
     replace S_SIOOBE_FORMATTER := (((S_SIOOBE_FORMATTER.ext E1).wr W2).wr W3).wr W4
     replace S_SIOOBE_FORMATTER := Sta_keep S_SIOOBE_FORMATTER K39 all0
     replace S__assertionsDisabled := (((S__assertionsDisabled.ext E1).wr W2).wr W3).wr W4
     replace S__assertionsDisabled := Sta_keep S__assertionsDisabled K39 all0
     replace S_HI_BYTE_SHIFT := (((S_HI_BYTE_SHIFT.ext E1).wr W2).wr W3).wr W4
     replace S_HI_BYTE_SHIFT := Sta_keep S_HI_BYTE_SHIFT K39 all0
     replace S_LO_BYTE_SHIFT := (((S_LO_BYTE_SHIFT.ext E1).wr W2).wr W3).wr W4
     replace S_LO_BYTE_SHIFT := Sta_keep S_LO_BYTE_SHIFT K39 all0
     have Z39 : n0 ≤ T39.heap.size := Nat.le_trans Z4 K39.1
     replace KP := KP.trans K39 all0
     refine Run.x_astore (q := 109) X39 hx #[.val (.int p1), .val (.int p2), .val (.int p3), .val (.int p4), .val (.int p5), .val (.int p6), .val (.int k0), .val (.int k1), .val (.int k2), .val (.ref b1), .val (.int 1), .val (.int 1), z12, .val (.int wd), .val (.ref sb39), .unset, .unset, .unset] (hb hby at_107) rfl rfl rfl ?_
     obtain ⟨T40, h40, X40, e40, E40, A40, D40, -, st40⟩ := newO X39 hx hZ hown (wm35 hw) (wm36 hw) (wm37 hw) rfl (g := (mkF m 109 #[.val (.int p1), .val (.int p2), .val (.int p3), .val (.int p4), .val (.int p5), .val (.int p6), .val (.int k0), .val (.int k1), .val (.int k2), .val (.ref b1), .val (.int 1), .val (.int 1), z12, .val (.int wd), .val (.ref sb39), .unset, .unset, .unset] [])) rfl (hb hby at_109) (by decide) (by decide)
     obtain ⟨b40, gg40⟩ : ∃ z, z = T39.heap.size := ⟨_, rfl⟩
     rw [← gg40] at A40 D40 st40
     have g_b40 : n0 ≤ b40 := Nat.le_trans Z39 (Nat.le_of_eq gg40.symm)
     replace A_b1 := A_b1.keep K39 nin0
     have ne_b1_b40 : b1 ≠ b40 := Nat.ne_of_lt (Nat.lt_of_lt_of_le A_b1.lt (Nat.le_of_eq gg40.symm))
     have ne_sb39_b40 : sb39 ≠ b40 := Nat.ne_of_lt (Nat.lt_of_lt_of_le Es39.lt (Nat.le_of_eq gg40.symm))
     have ne_bts39_b40 : bts39 ≠ b40 := Nat.ne_of_lt (Nat.lt_of_lt_of_le Ab39.lt (Nat.le_of_eq gg40.symm))
     have sz_b40 : h0.size ≤ b40 := Nat.le_trans KP.1 (Nat.le_of_eq gg40.symm)
     have Z40 : n0 ≤ h40.size := Nat.le_trans Z39 E40.1
     replace KP := KP.ext E40
     have E_b40 := A40
     have F_b40_text : Fld Z h40 b40 "com/example/sayso/sayso/TextCursor" "text" "Ljava/lang/String;" .null := D40 (Or.inr (wm43 hw)) (ty := (.object "java/lang/String")) (by decide)
     have F_b40_position : Fld Z h40 b40 "com/example/sayso/sayso/TextCursor" "position" "I" (.int 0) := D40 (Or.inl (wm45 hw)) (ty := .int) (by decide)
     refine Run.st st40 ?_
     show Run p e below s _ _ _ (T40.setTop (mkF m 112 #[.val (.int p1), .val (.int p2), .val (.int p3), .val (.int p4), .val (.int p5), .val (.int p6), .val (.int k0), .val (.int k1), .val (.int k2), .val (.ref b1), .val (.int 1), .val (.int 1), z12, .val (.int wd), .val (.ref sb39), .unset, .unset, .unset] [(.ref b40)]))
     refine Run.x_dup (q := 113) X40 hx (hb hby at_112) rfl rfl ?_
     refine Run.x_aload (q := 115) X40 hx (hb hby at_113) rfl rfl rfl ?_
     refine Run.callC X40 hx hZ e40 (y := (⟨"com/example/sayso/sayso/TextCursor", "<init>", "(Ljava/lang/String;)V"⟩ : MethodName)) hown rfl (wm38 hw) (wm39 hw) (wm37 hw) (wm40 hw) (by decide) (a := b40) (argsL := [(.ref sb39)]) (rest := [(.ref b40)]) (c_tci l Z a0 hw b40 sb39 h40 n0 Z40 E_b40 F_b40_text F_b40_position g_b40) pd_18 rfl (by rw [hml]; rfl) (W := 1) rfl (by decide) (by decide) (by decide) (by decide) (hb hby at_115) rfl ?_
     intro T41 v41 L41 X41 q41
     obtain ⟨rfl, M41, K41, E41, F41_0, F41_1⟩ := q41
     have N41 := Fr.app N39 M41
     show Run p e below s _ _ _ (T41.setTop (mkF m 118 #[.val (.int p1), .val (.int p2), .val (.int p3), .val (.int p4), .val (.int p5), .val (.int p6), .val (.int k0), .val (.int k1), .val (.int k2), .val (.ref b1), .val (.int 1), .val (.int 1), z12, .val (.int wd), .val (.ref sb39), .unset, .unset, .unset] [(.ref b40)]))
     replace S_COMPACT_STRINGS := S_COMPACT_STRINGS.ext E40
     replace S_COMPACT_STRINGS := Sta_keep S_COMPACT_STRINGS K41 (allS (Exa_ns E_b40) all0)
     replace S_SIOOBE_FORMATTER := S_SIOOBE_FORMATTER.ext E40
     replace S_SIOOBE_FORMATTER := Sta_keep S_SIOOBE_FORMATTER K41 (allS (Exa_ns E_b40) all0)
     replace S__assertionsDisabled := S__assertionsDisabled.ext E40
     replace S__assertionsDisabled := Sta_keep S__assertionsDisabled K41 (allS (Exa_ns E_b40) all0)
     replace S_HI_BYTE_SHIFT := S_HI_BYTE_SHIFT.ext E40
     replace S_HI_BYTE_SHIFT := Sta_keep S_HI_BYTE_SHIFT K41 (allS (Exa_ns E_b40) all0)
     replace S_LO_BYTE_SHIFT := S_LO_BYTE_SHIFT.ext E40
     replace S_LO_BYTE_SHIFT := Sta_keep S_LO_BYTE_SHIFT K41 (allS (Exa_ns E_b40) all0)
     have Z41 : n0 ≤ T41.heap.size := Nat.le_trans Z40 K41.1
     replace KP := KP.trans K41 (allS (Or.inr sz_b40) all0)
     refine Run.x_astore (q := 120) X41 hx #[.val (.int p1), .val (.int p2), .val (.int p3), .val (.int p4), .val (.int p5), .val (.int p6), .val (.int k0), .val (.int k1), .val (.int k2), .val (.ref b1), .val (.int 1), .val (.int 1), z12, .val (.int wd), .val (.ref sb39), .val (.ref b40), .unset, .unset] (hb hby at_118) rfl rfl rfl ?_
     refine Run.x_aload (q := 122) X41 hx (hb hby at_120) rfl rfl rfl ?_
     refine Run.x_iload (q := 124) X41 hx (hb hby at_122) rfl rfl ?_
     replace E_b40 := E_b40.keep K41
     obtain ⟨T42, h42, X42, e42, W42, st42⟩ := putF X41 hx hZ hown (host := "") (Or.inl (wm44 hw)) Via.refl rfl F41_1 E_b40 (Or.inl (wm45 hw)) (wm36 hw) (ty := .int) (by decide) rfl rfl (g := (mkF m 124 #[.val (.int p1), .val (.int p2), .val (.int p3), .val (.int p4), .val (.int p5), .val (.int p6), .val (.int k0), .val (.int k1), .val (.int k2), .val (.ref b1), .val (.int 1), .val (.int 1), z12, .val (.int wd), .val (.ref sb39), .val (.ref b40), .unset, .unset] [(.int 1), (.ref b40)])) rfl rfl (hb hby at_124)
     replace F41_1 := F41_1.same W42
     have Z42 : n0 ≤ h42.size := Nat.le_trans Z41 (Nat.le_of_eq W42.size.symm)
     replace KP := KP.wr W42 (Or.inr sz_b40)
     have N42 := Fr.snoc X42 N41 g_b40
     refine Run.st st42 ?_
     show Run p e below s _ _ _ (T42.setTop (mkF m 127 #[.val (.int p1), .val (.int p2), .val (.int p3), .val (.int p4), .val (.int p5), .val (.int p6), .val (.int k0), .val (.int k1), .val (.int k2), .val (.ref b1), .val (.int 1), .val (.int 1), z12, .val (.int wd), .val (.ref sb39), .val (.ref b40), .unset, .unset] []))
     refine Run.x_iload (q := 129) X42 hx (hb hby at_127) rfl rfl ?_
     refine Run.x_iload (q := 131) X42 hx (hb hby at_129) rfl rfl ?_
     refine Run.x_icmpYes (q := 154) X42 hx (hb hby at_131) (flt (by decide : ¬ ((1 : Int32) < (1 : Int32)))).2.1 (by decide) (by decide) ?_
     refine Run.x_iconst (q := 155) X42 hx (hb hby at_154) (z := (0 : Int32)) rfl rfl ?_
     refine Run.x_istore (q := 157) X42 hx #[.val (.int p1), .val (.int p2), .val (.int p3), .val (.int p4), .val (.int p5), .val (.int p6), .val (.int k0), .val (.int k1), .val (.int k2), .val (.ref b1), .val (.int 1), .val (.int 1), z12, .val (.int wd), .val (.ref sb39), .val (.ref b40), .val (.int 0), .unset] (hb hby at_155) rfl rfl ?_
     refine Run.x_aload (q := 159) X42 hx (hb hby at_157) rfl rfl rfl ?_
     refine Run.x_iload (q := 161) X42 hx (hb hby at_159) rfl rfl ?_
     replace E_b40 := E_b40.wr W42
     replace F41_0 := F41_0.other W42 (Or.inr (slot_ne (Or.inr (wm43 hw)) (Or.inl (wm45 hw)) (by decide) (t := (.object "java/lang/String")) (t' := .int) (by decide) (by decide)))
     replace Es39 := ((Es39.ext E40).keep K41).wr W42
     replace Fc39 := ((Fc39.ext E40).keep K41 (ninS ne_sb39_b40 nin0)).other W42 (Or.inl ne_sb39_b40)
     replace Fv39 := ((Fv39.ext E40).keep K41 (ninS ne_sb39_b40 nin0)).other W42 (Or.inl ne_sb39_b40)
     replace Ab39 := ((Ab39.ext E40).keep K41 (ninS ne_bts39_b40 nin0)).other W42 ne_bts39_b40
     replace S_COMPACT_STRINGS := S_COMPACT_STRINGS.wr W42
     refine Run.callVI (q := 164) X42 hx hZ e42 (y := (⟨"com/example/sayso/sayso/TextCursor", "at", "(C)Z"⟩ : MethodName)) (z := (⟨"com/example/sayso/sayso/TextCursor", "at", "(C)Z"⟩ : MethodName)) hown (wm46 hw) (wm47 hw) (notFace_of_selects (args := #[]) (mvT hZ (wm49 hw))) (wm49 hw) (wm48 hw) (wm37 hw) (wm50 hw) (by decide) (a := b40) E_b40 (argsL := [(.int wd)]) (rest := []) (c_atg0 l Z a0 hw b40 wd h42 n0 Z42 (1 : Int32) (1 : Int32) sb39 cp bts39 [(.int k0.toInt8.toInt32)] (1 : Int32) E_b40 F41_1 F41_0 Es39 Fc39 Fv39 Ab39 S_COMPACT_STRINGS hcp rfl (by decide) (by decide)) pd_19 rfl (by rw [hml]; rfl) (W := 0) rfl (by decide) (by decide) (by decide) (by decide) (hb hby at_161) rfl rfl fun T43 L43 X43 M43 e43 => ?_
     have N43 := Fr.app N42 M43
     refine Run.x_istore (q := 166) X43 hx #[.val (.int p1), .val (.int p2), .val (.int p3), .val (.int p4), .val (.int p5), .val (.int p6), .val (.int k0), .val (.int k1), .val (.int k2), .val (.ref b1), .val (.int 1), .val (.int 1), z12, .val (.int wd), .val (.ref sb39), .val (.ref b40), .val (.int 0), .val (.int 0)] (hb hby at_164) rfl rfl ?_
     refine Run.x_iload (q := 168) X43 hx (hb hby at_166) rfl rfl ?_
     refine Run.x_iload (q := 170) X43 hx (hb hby at_168) rfl rfl ?_
     refine Run.x_icmpNo (q := 173) X43 hx (hb hby at_170) (teq (by decide : (0 : Int32) = (0 : Int32))).2 rfl ?_
     refine Run.x_aload (q := 175) X43 hx (hb hby at_173) rfl rfl rfl ?_
     refine Run.z_getF (q := 178) X43 hx hZ e43 hown (wm44 hw) F41_1 (hb hby at_175) rfl fun T44 X44 e44 => ?_
     refine Run.x_iload (q := 180) X44 hx (hb hby at_178) rfl rfl ?_
     refine Run.x_icmpNo (q := 183) X44 hx (hb hby at_180) (teq (by decide : (1 : Int32) = (1 : Int32))).2 rfl ?_
     refine Run.x_aload (q := 185) X44 hx (hb hby at_183) rfl rfl rfl ?_
     refine Run.z_getF (q := 188) X44 hx hZ e44 hown (wm84 hw) F41_0 (hb hby at_185) rfl fun T45 X45 e45 => ?_
     refine Run.x_aload (q := 190) X45 hx (hb hby at_188) rfl rfl rfl ?_
     refine Run.st (B := T45.setTop (mkF m 193 #[.val (.int p1), .val (.int p2), .val (.int p3), .val (.int p4), .val (.int p5), .val (.int p6), .val (.int k0), .val (.int k1), .val (.int k2), .val (.ref b1), .val (.int 1), .val (.int 1), z12, .val (.int wd), .val (.ref sb39), .val (.ref b40), .val (.int 0), .val (.int 0)] [])) (fun t kt => Jvm.RoadKit.acmp (g := (mkF m 190 #[.val (.int p1), .val (.int p2), .val (.int p3), .val (.int p4), .val (.int p5), .val (.int p6), .val (.int k0), .val (.int k1), .val (.int k2), .val (.ref b1), .val (.int 1), .val (.int 1), z12, .val (.int wd), .val (.ref sb39), .val (.ref b40), .val (.int 0), .val (.int 0)] [(.ref sb39), (.ref sb39)])) X45 hx rfl rfl rfl (pc0 := 190) (pc' := 193) (same := true) rfl (hb hby at_190) rfl (decide_eq_true rfl) (by decide) (by decide) kt) ?_
     refine Run.x_iconst (q := 194) X45 hx (hb hby at_193) (z := (1 : Int32)) rfl rfl ?_
     refine Run.x_goto (q := 198) X45 hx (hb hby at_194) (by decide) (by decide) ?_
     refine Run.retN X45 hx hlk e45 (t := .boolean) hret (by simp) (z' := (1 : Int32)) (by decide) (hb hby at_198) (by decide) (by decide) ?_
     exact ⟨rfl, N43⟩
  ·skip
   show Run p e below s _ _ _ (T4.setTop (mkF m 96 #[.val (.int p1), .val (.int p2), .val (.int p3), .val (.int p4), .val (.int p5), .val (.int p6), .val (.int k0), .val (.int k1), .val (.int k2), .val (.ref b1), .val (.int 2), .val (.int pp), z12, .val (.int wd), .unset, .unset, .unset, .unset] []))
   by_cases hA : (255 : Int32) < k0 ∨ (255 : Int32) < k1
   ·skip
    rcases own_s2 hpp with rfl | rfl | rfl
    ·skip
     show Run p e below s _ _ _ (T4.setTop (mkF m 96 #[.val (.int p1), .val (.int p2), .val (.int p3), .val (.int p4), .val (.int p5), .val (.int p6), .val (.int k0), .val (.int k1), .val (.int k2), .val (.ref b1), .val (.int 2), .val (.int 0), z12, .val (.int wd), .unset, .unset, .unset, .unset] []))
     refine Run.x_iload (q := 98) X4 hx (hb hby at_96) rfl rfl ?_
     refine Run.x_iload (q := 100) X4 hx (hb hby at_98) rfl rfl ?_
     refine Run.x_iload (q := 102) X4 hx (hb hby at_100) rfl rfl ?_
     refine Run.x_iload (q := 104) X4 hx (hb hby at_102) rfl rfl ?_
     replace S_COMPACT_STRINGS := (((S_COMPACT_STRINGS.ext E1).wr W2).wr W3).wr W4
     replace S__assertionsDisabled := (((S__assertionsDisabled.ext E1).wr W2).wr W3).wr W4
     replace S_HI_BYTE_SHIFT := (((S_HI_BYTE_SHIFT.ext E1).wr W2).wr W3).wr W4
     replace S_LO_BYTE_SHIFT := (((S_LO_BYTE_SHIFT.ext E1).wr W2).wr W3).wr W4
     refine Run.callS X4 hx hZ e4 (y := (⟨"com/example/sayso/sayso/TextCursorAtPinLaw", "make", "(ICCC)Ljava/lang/String;"⟩ : MethodName)) hown (wm2 hw) (wm3 hw) (wm4 hw) (wm5 hw) (by decide) (argsL := [(.int 2), (.int k0), (.int k1), (.int k2)]) (rest := []) (c_mk_2_1 l Z a0 hw k0 k1 k2 h4 n0 Z4 cp S_COMPACT_STRINGS S__assertionsDisabled S_HI_BYTE_SHIFT S_LO_BYTE_SHIFT hcp hA rk0 rk1 rk2) pd_17 rfl (by rw [hml]; rfl) (W := 0) rfl (by decide) (by decide) (by decide) (by decide) (hb hby at_104) rfl ?_
     intro T46 v46 L46 X46 q46
     obtain ⟨sb46, bts46, rfl, M46, K46, sz46, Es46, Fv46, Fc46, Ab46⟩ := q46
     have N46 := Fr.app N4 M46
     show Run p e below s _ _ _ (T46.setTop (mkF m 107 #[.val (.int p1), .val (.int p2), .val (.int p3), .val (.int p4), .val (.int p5), .val (.int p6), .val (.int k0), .val (.int k1), .val (.int k2), .val (.ref b1), .val (.int 2), .val (.int 0), z12, .val (.int wd), .unset, .unset, .unset, .unset] [(.ref sb46)]))
     have ne_b1_sb46 : b1 ≠ sb46 := Nat.ne_of_lt (Nat.lt_of_lt_of_le A_b1.lt sz46)
     replace S_COMPACT_STRINGS := Sta_keep S_COMPACT_STRINGS K46 all0
     replace S_SIOOBE_FORMATTER := (((S_SIOOBE_FORMATTER.ext E1).wr W2).wr W3).wr W4
     replace S_SIOOBE_FORMATTER := Sta_keep S_SIOOBE_FORMATTER K46 all0
     replace S__assertionsDisabled := Sta_keep S__assertionsDisabled K46 all0
     replace S_HI_BYTE_SHIFT := Sta_keep S_HI_BYTE_SHIFT K46 all0
     replace S_LO_BYTE_SHIFT := Sta_keep S_LO_BYTE_SHIFT K46 all0
     have Z46 : n0 ≤ T46.heap.size := Nat.le_trans Z4 K46.1
     replace KP := KP.trans K46 all0
     refine Run.x_astore (q := 109) X46 hx #[.val (.int p1), .val (.int p2), .val (.int p3), .val (.int p4), .val (.int p5), .val (.int p6), .val (.int k0), .val (.int k1), .val (.int k2), .val (.ref b1), .val (.int 2), .val (.int 0), z12, .val (.int wd), .val (.ref sb46), .unset, .unset, .unset] (hb hby at_107) rfl rfl rfl ?_
     obtain ⟨T47, h47, X47, e47, E47, A47, D47, -, st47⟩ := newO X46 hx hZ hown (wm35 hw) (wm36 hw) (wm37 hw) rfl (g := (mkF m 109 #[.val (.int p1), .val (.int p2), .val (.int p3), .val (.int p4), .val (.int p5), .val (.int p6), .val (.int k0), .val (.int k1), .val (.int k2), .val (.ref b1), .val (.int 2), .val (.int 0), z12, .val (.int wd), .val (.ref sb46), .unset, .unset, .unset] [])) rfl (hb hby at_109) (by decide) (by decide)
     obtain ⟨b47, gg47⟩ : ∃ z, z = T46.heap.size := ⟨_, rfl⟩
     rw [← gg47] at A47 D47 st47
     have g_b47 : n0 ≤ b47 := Nat.le_trans Z46 (Nat.le_of_eq gg47.symm)
     replace A_b1 := A_b1.keep K46 nin0
     have ne_b1_b47 : b1 ≠ b47 := Nat.ne_of_lt (Nat.lt_of_lt_of_le A_b1.lt (Nat.le_of_eq gg47.symm))
     have ne_sb46_b47 : sb46 ≠ b47 := Nat.ne_of_lt (Nat.lt_of_lt_of_le Es46.lt (Nat.le_of_eq gg47.symm))
     have ne_bts46_b47 : bts46 ≠ b47 := Nat.ne_of_lt (Nat.lt_of_lt_of_le Ab46.lt (Nat.le_of_eq gg47.symm))
     have sz_b47 : h0.size ≤ b47 := Nat.le_trans KP.1 (Nat.le_of_eq gg47.symm)
     have Z47 : n0 ≤ h47.size := Nat.le_trans Z46 E47.1
     replace KP := KP.ext E47
     have E_b47 := A47
     have F_b47_text : Fld Z h47 b47 "com/example/sayso/sayso/TextCursor" "text" "Ljava/lang/String;" .null := D47 (Or.inr (wm43 hw)) (ty := (.object "java/lang/String")) (by decide)
     have F_b47_position : Fld Z h47 b47 "com/example/sayso/sayso/TextCursor" "position" "I" (.int 0) := D47 (Or.inl (wm45 hw)) (ty := .int) (by decide)
     refine Run.st st47 ?_
     show Run p e below s _ _ _ (T47.setTop (mkF m 112 #[.val (.int p1), .val (.int p2), .val (.int p3), .val (.int p4), .val (.int p5), .val (.int p6), .val (.int k0), .val (.int k1), .val (.int k2), .val (.ref b1), .val (.int 2), .val (.int 0), z12, .val (.int wd), .val (.ref sb46), .unset, .unset, .unset] [(.ref b47)]))
     refine Run.x_dup (q := 113) X47 hx (hb hby at_112) rfl rfl ?_
     refine Run.x_aload (q := 115) X47 hx (hb hby at_113) rfl rfl rfl ?_
     refine Run.callC X47 hx hZ e47 (y := (⟨"com/example/sayso/sayso/TextCursor", "<init>", "(Ljava/lang/String;)V"⟩ : MethodName)) hown rfl (wm38 hw) (wm39 hw) (wm37 hw) (wm40 hw) (by decide) (a := b47) (argsL := [(.ref sb46)]) (rest := [(.ref b47)]) (c_tci l Z a0 hw b47 sb46 h47 n0 Z47 E_b47 F_b47_text F_b47_position g_b47) pd_18 rfl (by rw [hml]; rfl) (W := 1) rfl (by decide) (by decide) (by decide) (by decide) (hb hby at_115) rfl ?_
     intro T48 v48 L48 X48 q48
     obtain ⟨rfl, M48, K48, E48, F48_0, F48_1⟩ := q48
     have N48 := Fr.app N46 M48
     show Run p e below s _ _ _ (T48.setTop (mkF m 118 #[.val (.int p1), .val (.int p2), .val (.int p3), .val (.int p4), .val (.int p5), .val (.int p6), .val (.int k0), .val (.int k1), .val (.int k2), .val (.ref b1), .val (.int 2), .val (.int 0), z12, .val (.int wd), .val (.ref sb46), .unset, .unset, .unset] [(.ref b47)]))
     replace S_COMPACT_STRINGS := S_COMPACT_STRINGS.ext E47
     replace S_COMPACT_STRINGS := Sta_keep S_COMPACT_STRINGS K48 (allS (Exa_ns E_b47) all0)
     replace S_SIOOBE_FORMATTER := S_SIOOBE_FORMATTER.ext E47
     replace S_SIOOBE_FORMATTER := Sta_keep S_SIOOBE_FORMATTER K48 (allS (Exa_ns E_b47) all0)
     replace S__assertionsDisabled := S__assertionsDisabled.ext E47
     replace S__assertionsDisabled := Sta_keep S__assertionsDisabled K48 (allS (Exa_ns E_b47) all0)
     replace S_HI_BYTE_SHIFT := S_HI_BYTE_SHIFT.ext E47
     replace S_HI_BYTE_SHIFT := Sta_keep S_HI_BYTE_SHIFT K48 (allS (Exa_ns E_b47) all0)
     replace S_LO_BYTE_SHIFT := S_LO_BYTE_SHIFT.ext E47
     replace S_LO_BYTE_SHIFT := Sta_keep S_LO_BYTE_SHIFT K48 (allS (Exa_ns E_b47) all0)
     have Z48 : n0 ≤ T48.heap.size := Nat.le_trans Z47 K48.1
     replace KP := KP.trans K48 (allS (Or.inr sz_b47) all0)
     refine Run.x_astore (q := 120) X48 hx #[.val (.int p1), .val (.int p2), .val (.int p3), .val (.int p4), .val (.int p5), .val (.int p6), .val (.int k0), .val (.int k1), .val (.int k2), .val (.ref b1), .val (.int 2), .val (.int 0), z12, .val (.int wd), .val (.ref sb46), .val (.ref b47), .unset, .unset] (hb hby at_118) rfl rfl rfl ?_
     refine Run.x_aload (q := 122) X48 hx (hb hby at_120) rfl rfl rfl ?_
     refine Run.x_iload (q := 124) X48 hx (hb hby at_122) rfl rfl ?_
     replace E_b47 := E_b47.keep K48
     obtain ⟨T49, h49, X49, e49, W49, st49⟩ := putF X48 hx hZ hown (host := "") (Or.inl (wm44 hw)) Via.refl rfl F48_1 E_b47 (Or.inl (wm45 hw)) (wm36 hw) (ty := .int) (by decide) rfl rfl (g := (mkF m 124 #[.val (.int p1), .val (.int p2), .val (.int p3), .val (.int p4), .val (.int p5), .val (.int p6), .val (.int k0), .val (.int k1), .val (.int k2), .val (.ref b1), .val (.int 2), .val (.int 0), z12, .val (.int wd), .val (.ref sb46), .val (.ref b47), .unset, .unset] [(.int 0), (.ref b47)])) rfl rfl (hb hby at_124)
     replace F48_1 := F48_1.same W49
     have Z49 : n0 ≤ h49.size := Nat.le_trans Z48 (Nat.le_of_eq W49.size.symm)
     replace KP := KP.wr W49 (Or.inr sz_b47)
     have N49 := Fr.snoc X49 N48 g_b47
     refine Run.st st49 ?_
     show Run p e below s _ _ _ (T49.setTop (mkF m 127 #[.val (.int p1), .val (.int p2), .val (.int p3), .val (.int p4), .val (.int p5), .val (.int p6), .val (.int k0), .val (.int k1), .val (.int k2), .val (.ref b1), .val (.int 2), .val (.int 0), z12, .val (.int wd), .val (.ref sb46), .val (.ref b47), .unset, .unset] []))
     refine Run.x_iload (q := 129) X49 hx (hb hby at_127) rfl rfl ?_
     refine Run.x_iload (q := 131) X49 hx (hb hby at_129) rfl rfl ?_
     refine Run.x_icmpNo (q := 134) X49 hx (hb hby at_131) (tlt (by decide : (0 : Int32) < (2 : Int32))).2.1 rfl ?_
     refine Run.x_aload (q := 136) X49 hx (hb hby at_134) rfl rfl rfl ?_
     refine Run.x_iload (q := 138) X49 hx (hb hby at_136) rfl rfl ?_
     replace A_b1 := ((A_b1.ext E47).keep K48 (ninS ne_b1_b47 nin0)).other W49 ne_b1_b47
     refine Run.y_ldC (q := 139) X49 hx hZ e49 A_b1 (i := 0) (v := (.int k0)) (by decide) rfl (hb hby at_138) rfl ?_
     refine Run.x_iload (q := 141) X49 hx (hb hby at_139) rfl rfl ?_
     by_cases hc141 : k0 = wd
     ·skip
      refine Run.x_icmpNo (q := 144) X49 hx (hb hby at_141) (teq hc141).2 rfl ?_
      refine Run.x_iconst (q := 145) X49 hx (hb hby at_144) (z := (1 : Int32)) rfl rfl ?_
      refine Run.x_goto (q := 149) X49 hx (hb hby at_145) (by decide) (by decide) ?_
      refine Run.x_istore (q := 151) X49 hx #[.val (.int p1), .val (.int p2), .val (.int p3), .val (.int p4), .val (.int p5), .val (.int p6), .val (.int k0), .val (.int k1), .val (.int k2), .val (.ref b1), .val (.int 2), .val (.int 0), z12, .val (.int wd), .val (.ref sb46), .val (.ref b47), .val (.int 1), .unset] (hb hby at_149) rfl rfl ?_
      refine Run.x_goto (q := 157) X49 hx (hb hby at_151) (by decide) (by decide) ?_
      refine Run.x_aload (q := 159) X49 hx (hb hby at_157) rfl rfl rfl ?_
      refine Run.x_iload (q := 161) X49 hx (hb hby at_159) rfl rfl ?_
      replace E_b47 := E_b47.wr W49
      replace F48_0 := F48_0.other W49 (Or.inr (slot_ne (Or.inr (wm43 hw)) (Or.inl (wm45 hw)) (by decide) (t := (.object "java/lang/String")) (t' := .int) (by decide) (by decide)))
      replace Es46 := ((Es46.ext E47).keep K48).wr W49
      replace Fc46 := ((Fc46.ext E47).keep K48 (ninS ne_sb46_b47 nin0)).other W49 (Or.inl ne_sb46_b47)
      replace Fv46 := ((Fv46.ext E47).keep K48 (ninS ne_sb46_b47 nin0)).other W49 (Or.inl ne_sb46_b47)
      replace Ab46 := ((Ab46.ext E47).keep K48 (ninS ne_bts46_b47 nin0)).other W49 ne_bts46_b47
      replace S_COMPACT_STRINGS := S_COMPACT_STRINGS.wr W49
      replace S_SIOOBE_FORMATTER := S_SIOOBE_FORMATTER.wr W49
      replace S__assertionsDisabled := S__assertionsDisabled.wr W49
      replace S_HI_BYTE_SHIFT := S_HI_BYTE_SHIFT.wr W49
      replace S_LO_BYTE_SHIFT := S_LO_BYTE_SHIFT.wr W49
      refine Run.callVI (q := 164) X49 hx hZ e49 (y := (⟨"com/example/sayso/sayso/TextCursor", "at", "(C)Z"⟩ : MethodName)) (z := (⟨"com/example/sayso/sayso/TextCursor", "at", "(C)Z"⟩ : MethodName)) hown (wm46 hw) (wm47 hw) (notFace_of_selects (args := #[]) (mvT hZ (wm49 hw))) (wm49 hw) (wm48 hw) (wm37 hw) (wm50 hw) (by decide) (a := b47) E_b47 (argsL := [(.int wd)]) (rest := []) (c_atl1 l Z a0 hw b47 wd h49 n0 Z49 (0 : Int32) (2 : Int32) sb46 cp bts46 [(.int (k0 >>> ((0 : Int32) &&& 31)).toInt8.toInt32), (.int (k0 >>> ((8 : Int32) &&& 31)).toInt8.toInt32), (.int (k1 >>> ((0 : Int32) &&& 31)).toInt8.toInt32), (.int (k1 >>> ((8 : Int32) &&& 31)).toInt8.toInt32)] (4 : Int32) sf (2 : Int32) 0 (k0 >>> ((0 : Int32) &&& 31)).toInt8.toInt32 (k0 >>> ((8 : Int32) &&& 31)).toInt8.toInt32 k0 E_b47 F48_1 F48_0 Es46 Fc46 Fv46 Ab46 S_COMPACT_STRINGS S_SIOOBE_FORMATTER S__assertionsDisabled S_HI_BYTE_SHIFT S_LO_BYTE_SHIFT hcp (by decide) (by decide) hsf rfl (by decide) (by decide) (by decide) (by decide) (by decide) rfl rfl (own_utf rk0) (own_nr rk0)) pd_19 rfl (by rw [hml]; rfl) (W := 0) rfl (by decide) (by decide) (by decide) (by decide) (hb hby at_161) rfl rfl fun T50 L50 X50 M50 e50 => ?_
      have N50 := Fr.app N49 M50
      refine Run.x_istore (q := 166) X50 hx #[.val (.int p1), .val (.int p2), .val (.int p3), .val (.int p4), .val (.int p5), .val (.int p6), .val (.int k0), .val (.int k1), .val (.int k2), .val (.ref b1), .val (.int 2), .val (.int 0), z12, .val (.int wd), .val (.ref sb46), .val (.ref b47), .val (.int 1), .val (.int (own_b (k0 = wd)))] (hb hby at_164) rfl rfl ?_
      refine Run.x_iload (q := 168) X50 hx (hb hby at_166) rfl rfl ?_
      refine Run.x_iload (q := 170) X50 hx (hb hby at_168) rfl rfl ?_
      refine Run.x_icmpNo (q := 173) X50 hx (hb hby at_170) (teq (own_b1 hc141)).2 rfl ?_
      refine Run.x_aload (q := 175) X50 hx (hb hby at_173) rfl rfl rfl ?_
      refine Run.z_getF (q := 178) X50 hx hZ e50 hown (wm44 hw) F48_1 (hb hby at_175) rfl fun T51 X51 e51 => ?_
      refine Run.x_iload (q := 180) X51 hx (hb hby at_178) rfl rfl ?_
      refine Run.x_icmpNo (q := 183) X51 hx (hb hby at_180) (teq (by decide : (0 : Int32) = (0 : Int32))).2 rfl ?_
      refine Run.x_aload (q := 185) X51 hx (hb hby at_183) rfl rfl rfl ?_
      refine Run.z_getF (q := 188) X51 hx hZ e51 hown (wm84 hw) F48_0 (hb hby at_185) rfl fun T52 X52 e52 => ?_
      refine Run.x_aload (q := 190) X52 hx (hb hby at_188) rfl rfl rfl ?_
      refine Run.st (B := T52.setTop (mkF m 193 #[.val (.int p1), .val (.int p2), .val (.int p3), .val (.int p4), .val (.int p5), .val (.int p6), .val (.int k0), .val (.int k1), .val (.int k2), .val (.ref b1), .val (.int 2), .val (.int 0), z12, .val (.int wd), .val (.ref sb46), .val (.ref b47), .val (.int 1), .val (.int (own_b (k0 = wd)))] [])) (fun t kt => Jvm.RoadKit.acmp (g := (mkF m 190 #[.val (.int p1), .val (.int p2), .val (.int p3), .val (.int p4), .val (.int p5), .val (.int p6), .val (.int k0), .val (.int k1), .val (.int k2), .val (.ref b1), .val (.int 2), .val (.int 0), z12, .val (.int wd), .val (.ref sb46), .val (.ref b47), .val (.int 1), .val (.int (own_b (k0 = wd)))] [(.ref sb46), (.ref sb46)])) X52 hx rfl rfl rfl (pc0 := 190) (pc' := 193) (same := true) rfl (hb hby at_190) rfl (decide_eq_true rfl) (by decide) (by decide) kt) ?_
      refine Run.x_iconst (q := 194) X52 hx (hb hby at_193) (z := (1 : Int32)) rfl rfl ?_
      refine Run.x_goto (q := 198) X52 hx (hb hby at_194) (by decide) (by decide) ?_
      refine Run.retN X52 hx hlk e52 (t := .boolean) hret (by simp) (z' := (1 : Int32)) (by decide) (hb hby at_198) (by decide) (by decide) ?_
      exact ⟨rfl, N50⟩
     ·skip
      refine Run.x_icmpYes (q := 148) X49 hx (hb hby at_141) (feq hc141).2 (by decide) (by decide) ?_
      refine Run.x_iconst (q := 149) X49 hx (hb hby at_148) (z := (0 : Int32)) rfl rfl ?_
      refine Run.x_istore (q := 151) X49 hx #[.val (.int p1), .val (.int p2), .val (.int p3), .val (.int p4), .val (.int p5), .val (.int p6), .val (.int k0), .val (.int k1), .val (.int k2), .val (.ref b1), .val (.int 2), .val (.int 0), z12, .val (.int wd), .val (.ref sb46), .val (.ref b47), .val (.int 0), .unset] (hb hby at_149) rfl rfl ?_
      refine Run.x_goto (q := 157) X49 hx (hb hby at_151) (by decide) (by decide) ?_
      refine Run.x_aload (q := 159) X49 hx (hb hby at_157) rfl rfl rfl ?_
      refine Run.x_iload (q := 161) X49 hx (hb hby at_159) rfl rfl ?_
      replace E_b47 := E_b47.wr W49
      replace F48_0 := F48_0.other W49 (Or.inr (slot_ne (Or.inr (wm43 hw)) (Or.inl (wm45 hw)) (by decide) (t := (.object "java/lang/String")) (t' := .int) (by decide) (by decide)))
      replace Es46 := ((Es46.ext E47).keep K48).wr W49
      replace Fc46 := ((Fc46.ext E47).keep K48 (ninS ne_sb46_b47 nin0)).other W49 (Or.inl ne_sb46_b47)
      replace Fv46 := ((Fv46.ext E47).keep K48 (ninS ne_sb46_b47 nin0)).other W49 (Or.inl ne_sb46_b47)
      replace Ab46 := ((Ab46.ext E47).keep K48 (ninS ne_bts46_b47 nin0)).other W49 ne_bts46_b47
      replace S_COMPACT_STRINGS := S_COMPACT_STRINGS.wr W49
      replace S_SIOOBE_FORMATTER := S_SIOOBE_FORMATTER.wr W49
      replace S__assertionsDisabled := S__assertionsDisabled.wr W49
      replace S_HI_BYTE_SHIFT := S_HI_BYTE_SHIFT.wr W49
      replace S_LO_BYTE_SHIFT := S_LO_BYTE_SHIFT.wr W49
      refine Run.callVI (q := 164) X49 hx hZ e49 (y := (⟨"com/example/sayso/sayso/TextCursor", "at", "(C)Z"⟩ : MethodName)) (z := (⟨"com/example/sayso/sayso/TextCursor", "at", "(C)Z"⟩ : MethodName)) hown (wm46 hw) (wm47 hw) (notFace_of_selects (args := #[]) (mvT hZ (wm49 hw))) (wm49 hw) (wm48 hw) (wm37 hw) (wm50 hw) (by decide) (a := b47) E_b47 (argsL := [(.int wd)]) (rest := []) (c_atl1 l Z a0 hw b47 wd h49 n0 Z49 (0 : Int32) (2 : Int32) sb46 cp bts46 [(.int (k0 >>> ((0 : Int32) &&& 31)).toInt8.toInt32), (.int (k0 >>> ((8 : Int32) &&& 31)).toInt8.toInt32), (.int (k1 >>> ((0 : Int32) &&& 31)).toInt8.toInt32), (.int (k1 >>> ((8 : Int32) &&& 31)).toInt8.toInt32)] (4 : Int32) sf (2 : Int32) 0 (k0 >>> ((0 : Int32) &&& 31)).toInt8.toInt32 (k0 >>> ((8 : Int32) &&& 31)).toInt8.toInt32 k0 E_b47 F48_1 F48_0 Es46 Fc46 Fv46 Ab46 S_COMPACT_STRINGS S_SIOOBE_FORMATTER S__assertionsDisabled S_HI_BYTE_SHIFT S_LO_BYTE_SHIFT hcp (by decide) (by decide) hsf rfl (by decide) (by decide) (by decide) (by decide) (by decide) rfl rfl (own_utf rk0) (own_nr rk0)) pd_19 rfl (by rw [hml]; rfl) (W := 0) rfl (by decide) (by decide) (by decide) (by decide) (hb hby at_161) rfl rfl fun T53 L53 X53 M53 e53 => ?_
      have N53 := Fr.app N49 M53
      refine Run.x_istore (q := 166) X53 hx #[.val (.int p1), .val (.int p2), .val (.int p3), .val (.int p4), .val (.int p5), .val (.int p6), .val (.int k0), .val (.int k1), .val (.int k2), .val (.ref b1), .val (.int 2), .val (.int 0), z12, .val (.int wd), .val (.ref sb46), .val (.ref b47), .val (.int 0), .val (.int (own_b (k0 = wd)))] (hb hby at_164) rfl rfl ?_
      refine Run.x_iload (q := 168) X53 hx (hb hby at_166) rfl rfl ?_
      refine Run.x_iload (q := 170) X53 hx (hb hby at_168) rfl rfl ?_
      refine Run.x_icmpNo (q := 173) X53 hx (hb hby at_170) (teq (own_b0 hc141)).2 rfl ?_
      refine Run.x_aload (q := 175) X53 hx (hb hby at_173) rfl rfl rfl ?_
      refine Run.z_getF (q := 178) X53 hx hZ e53 hown (wm44 hw) F48_1 (hb hby at_175) rfl fun T54 X54 e54 => ?_
      refine Run.x_iload (q := 180) X54 hx (hb hby at_178) rfl rfl ?_
      refine Run.x_icmpNo (q := 183) X54 hx (hb hby at_180) (teq (by decide : (0 : Int32) = (0 : Int32))).2 rfl ?_
      refine Run.x_aload (q := 185) X54 hx (hb hby at_183) rfl rfl rfl ?_
      refine Run.z_getF (q := 188) X54 hx hZ e54 hown (wm84 hw) F48_0 (hb hby at_185) rfl fun T55 X55 e55 => ?_
      refine Run.x_aload (q := 190) X55 hx (hb hby at_188) rfl rfl rfl ?_
      refine Run.st (B := T55.setTop (mkF m 193 #[.val (.int p1), .val (.int p2), .val (.int p3), .val (.int p4), .val (.int p5), .val (.int p6), .val (.int k0), .val (.int k1), .val (.int k2), .val (.ref b1), .val (.int 2), .val (.int 0), z12, .val (.int wd), .val (.ref sb46), .val (.ref b47), .val (.int 0), .val (.int (own_b (k0 = wd)))] [])) (fun t kt => Jvm.RoadKit.acmp (g := (mkF m 190 #[.val (.int p1), .val (.int p2), .val (.int p3), .val (.int p4), .val (.int p5), .val (.int p6), .val (.int k0), .val (.int k1), .val (.int k2), .val (.ref b1), .val (.int 2), .val (.int 0), z12, .val (.int wd), .val (.ref sb46), .val (.ref b47), .val (.int 0), .val (.int (own_b (k0 = wd)))] [(.ref sb46), (.ref sb46)])) X55 hx rfl rfl rfl (pc0 := 190) (pc' := 193) (same := true) rfl (hb hby at_190) rfl (decide_eq_true rfl) (by decide) (by decide) kt) ?_
      refine Run.x_iconst (q := 194) X55 hx (hb hby at_193) (z := (1 : Int32)) rfl rfl ?_
      refine Run.x_goto (q := 198) X55 hx (hb hby at_194) (by decide) (by decide) ?_
      refine Run.retN X55 hx hlk e55 (t := .boolean) hret (by simp) (z' := (1 : Int32)) (by decide) (hb hby at_198) (by decide) (by decide) ?_
      exact ⟨rfl, N53⟩
    ·skip
     show Run p e below s _ _ _ (T4.setTop (mkF m 96 #[.val (.int p1), .val (.int p2), .val (.int p3), .val (.int p4), .val (.int p5), .val (.int p6), .val (.int k0), .val (.int k1), .val (.int k2), .val (.ref b1), .val (.int 2), .val (.int 1), z12, .val (.int wd), .unset, .unset, .unset, .unset] []))
     refine Run.x_iload (q := 98) X4 hx (hb hby at_96) rfl rfl ?_
     refine Run.x_iload (q := 100) X4 hx (hb hby at_98) rfl rfl ?_
     refine Run.x_iload (q := 102) X4 hx (hb hby at_100) rfl rfl ?_
     refine Run.x_iload (q := 104) X4 hx (hb hby at_102) rfl rfl ?_
     replace S_COMPACT_STRINGS := (((S_COMPACT_STRINGS.ext E1).wr W2).wr W3).wr W4
     replace S__assertionsDisabled := (((S__assertionsDisabled.ext E1).wr W2).wr W3).wr W4
     replace S_HI_BYTE_SHIFT := (((S_HI_BYTE_SHIFT.ext E1).wr W2).wr W3).wr W4
     replace S_LO_BYTE_SHIFT := (((S_LO_BYTE_SHIFT.ext E1).wr W2).wr W3).wr W4
     refine Run.callS X4 hx hZ e4 (y := (⟨"com/example/sayso/sayso/TextCursorAtPinLaw", "make", "(ICCC)Ljava/lang/String;"⟩ : MethodName)) hown (wm2 hw) (wm3 hw) (wm4 hw) (wm5 hw) (by decide) (argsL := [(.int 2), (.int k0), (.int k1), (.int k2)]) (rest := []) (c_mk_2_1 l Z a0 hw k0 k1 k2 h4 n0 Z4 cp S_COMPACT_STRINGS S__assertionsDisabled S_HI_BYTE_SHIFT S_LO_BYTE_SHIFT hcp hA rk0 rk1 rk2) pd_17 rfl (by rw [hml]; rfl) (W := 0) rfl (by decide) (by decide) (by decide) (by decide) (hb hby at_104) rfl ?_
     intro T56 v56 L56 X56 q56
     obtain ⟨sb56, bts56, rfl, M56, K56, sz56, Es56, Fv56, Fc56, Ab56⟩ := q56
     have N56 := Fr.app N4 M56
     show Run p e below s _ _ _ (T56.setTop (mkF m 107 #[.val (.int p1), .val (.int p2), .val (.int p3), .val (.int p4), .val (.int p5), .val (.int p6), .val (.int k0), .val (.int k1), .val (.int k2), .val (.ref b1), .val (.int 2), .val (.int 1), z12, .val (.int wd), .unset, .unset, .unset, .unset] [(.ref sb56)]))
     have ne_b1_sb56 : b1 ≠ sb56 := Nat.ne_of_lt (Nat.lt_of_lt_of_le A_b1.lt sz56)
     replace S_COMPACT_STRINGS := Sta_keep S_COMPACT_STRINGS K56 all0
     replace S_SIOOBE_FORMATTER := (((S_SIOOBE_FORMATTER.ext E1).wr W2).wr W3).wr W4
     replace S_SIOOBE_FORMATTER := Sta_keep S_SIOOBE_FORMATTER K56 all0
     replace S__assertionsDisabled := Sta_keep S__assertionsDisabled K56 all0
     replace S_HI_BYTE_SHIFT := Sta_keep S_HI_BYTE_SHIFT K56 all0
     replace S_LO_BYTE_SHIFT := Sta_keep S_LO_BYTE_SHIFT K56 all0
     have Z56 : n0 ≤ T56.heap.size := Nat.le_trans Z4 K56.1
     replace KP := KP.trans K56 all0
     refine Run.x_astore (q := 109) X56 hx #[.val (.int p1), .val (.int p2), .val (.int p3), .val (.int p4), .val (.int p5), .val (.int p6), .val (.int k0), .val (.int k1), .val (.int k2), .val (.ref b1), .val (.int 2), .val (.int 1), z12, .val (.int wd), .val (.ref sb56), .unset, .unset, .unset] (hb hby at_107) rfl rfl rfl ?_
     obtain ⟨T57, h57, X57, e57, E57, A57, D57, -, st57⟩ := newO X56 hx hZ hown (wm35 hw) (wm36 hw) (wm37 hw) rfl (g := (mkF m 109 #[.val (.int p1), .val (.int p2), .val (.int p3), .val (.int p4), .val (.int p5), .val (.int p6), .val (.int k0), .val (.int k1), .val (.int k2), .val (.ref b1), .val (.int 2), .val (.int 1), z12, .val (.int wd), .val (.ref sb56), .unset, .unset, .unset] [])) rfl (hb hby at_109) (by decide) (by decide)
     obtain ⟨b57, gg57⟩ : ∃ z, z = T56.heap.size := ⟨_, rfl⟩
     rw [← gg57] at A57 D57 st57
     have g_b57 : n0 ≤ b57 := Nat.le_trans Z56 (Nat.le_of_eq gg57.symm)
     replace A_b1 := A_b1.keep K56 nin0
     have ne_b1_b57 : b1 ≠ b57 := Nat.ne_of_lt (Nat.lt_of_lt_of_le A_b1.lt (Nat.le_of_eq gg57.symm))
     have ne_sb56_b57 : sb56 ≠ b57 := Nat.ne_of_lt (Nat.lt_of_lt_of_le Es56.lt (Nat.le_of_eq gg57.symm))
     have ne_bts56_b57 : bts56 ≠ b57 := Nat.ne_of_lt (Nat.lt_of_lt_of_le Ab56.lt (Nat.le_of_eq gg57.symm))
     have sz_b57 : h0.size ≤ b57 := Nat.le_trans KP.1 (Nat.le_of_eq gg57.symm)
     have Z57 : n0 ≤ h57.size := Nat.le_trans Z56 E57.1
     replace KP := KP.ext E57
     have E_b57 := A57
     have F_b57_text : Fld Z h57 b57 "com/example/sayso/sayso/TextCursor" "text" "Ljava/lang/String;" .null := D57 (Or.inr (wm43 hw)) (ty := (.object "java/lang/String")) (by decide)
     have F_b57_position : Fld Z h57 b57 "com/example/sayso/sayso/TextCursor" "position" "I" (.int 0) := D57 (Or.inl (wm45 hw)) (ty := .int) (by decide)
     refine Run.st st57 ?_
     show Run p e below s _ _ _ (T57.setTop (mkF m 112 #[.val (.int p1), .val (.int p2), .val (.int p3), .val (.int p4), .val (.int p5), .val (.int p6), .val (.int k0), .val (.int k1), .val (.int k2), .val (.ref b1), .val (.int 2), .val (.int 1), z12, .val (.int wd), .val (.ref sb56), .unset, .unset, .unset] [(.ref b57)]))
     refine Run.x_dup (q := 113) X57 hx (hb hby at_112) rfl rfl ?_
     refine Run.x_aload (q := 115) X57 hx (hb hby at_113) rfl rfl rfl ?_
     refine Run.callC X57 hx hZ e57 (y := (⟨"com/example/sayso/sayso/TextCursor", "<init>", "(Ljava/lang/String;)V"⟩ : MethodName)) hown rfl (wm38 hw) (wm39 hw) (wm37 hw) (wm40 hw) (by decide) (a := b57) (argsL := [(.ref sb56)]) (rest := [(.ref b57)]) (c_tci l Z a0 hw b57 sb56 h57 n0 Z57 E_b57 F_b57_text F_b57_position g_b57) pd_18 rfl (by rw [hml]; rfl) (W := 1) rfl (by decide) (by decide) (by decide) (by decide) (hb hby at_115) rfl ?_
     intro T58 v58 L58 X58 q58
     obtain ⟨rfl, M58, K58, E58, F58_0, F58_1⟩ := q58
     have N58 := Fr.app N56 M58
     show Run p e below s _ _ _ (T58.setTop (mkF m 118 #[.val (.int p1), .val (.int p2), .val (.int p3), .val (.int p4), .val (.int p5), .val (.int p6), .val (.int k0), .val (.int k1), .val (.int k2), .val (.ref b1), .val (.int 2), .val (.int 1), z12, .val (.int wd), .val (.ref sb56), .unset, .unset, .unset] [(.ref b57)]))
     replace S_COMPACT_STRINGS := S_COMPACT_STRINGS.ext E57
     replace S_COMPACT_STRINGS := Sta_keep S_COMPACT_STRINGS K58 (allS (Exa_ns E_b57) all0)
     replace S_SIOOBE_FORMATTER := S_SIOOBE_FORMATTER.ext E57
     replace S_SIOOBE_FORMATTER := Sta_keep S_SIOOBE_FORMATTER K58 (allS (Exa_ns E_b57) all0)
     replace S__assertionsDisabled := S__assertionsDisabled.ext E57
     replace S__assertionsDisabled := Sta_keep S__assertionsDisabled K58 (allS (Exa_ns E_b57) all0)
     replace S_HI_BYTE_SHIFT := S_HI_BYTE_SHIFT.ext E57
     replace S_HI_BYTE_SHIFT := Sta_keep S_HI_BYTE_SHIFT K58 (allS (Exa_ns E_b57) all0)
     replace S_LO_BYTE_SHIFT := S_LO_BYTE_SHIFT.ext E57
     replace S_LO_BYTE_SHIFT := Sta_keep S_LO_BYTE_SHIFT K58 (allS (Exa_ns E_b57) all0)
     have Z58 : n0 ≤ T58.heap.size := Nat.le_trans Z57 K58.1
     replace KP := KP.trans K58 (allS (Or.inr sz_b57) all0)
     refine Run.x_astore (q := 120) X58 hx #[.val (.int p1), .val (.int p2), .val (.int p3), .val (.int p4), .val (.int p5), .val (.int p6), .val (.int k0), .val (.int k1), .val (.int k2), .val (.ref b1), .val (.int 2), .val (.int 1), z12, .val (.int wd), .val (.ref sb56), .val (.ref b57), .unset, .unset] (hb hby at_118) rfl rfl rfl ?_
     refine Run.x_aload (q := 122) X58 hx (hb hby at_120) rfl rfl rfl ?_
     refine Run.x_iload (q := 124) X58 hx (hb hby at_122) rfl rfl ?_
     replace E_b57 := E_b57.keep K58
     obtain ⟨T59, h59, X59, e59, W59, st59⟩ := putF X58 hx hZ hown (host := "") (Or.inl (wm44 hw)) Via.refl rfl F58_1 E_b57 (Or.inl (wm45 hw)) (wm36 hw) (ty := .int) (by decide) rfl rfl (g := (mkF m 124 #[.val (.int p1), .val (.int p2), .val (.int p3), .val (.int p4), .val (.int p5), .val (.int p6), .val (.int k0), .val (.int k1), .val (.int k2), .val (.ref b1), .val (.int 2), .val (.int 1), z12, .val (.int wd), .val (.ref sb56), .val (.ref b57), .unset, .unset] [(.int 1), (.ref b57)])) rfl rfl (hb hby at_124)
     replace F58_1 := F58_1.same W59
     have Z59 : n0 ≤ h59.size := Nat.le_trans Z58 (Nat.le_of_eq W59.size.symm)
     replace KP := KP.wr W59 (Or.inr sz_b57)
     have N59 := Fr.snoc X59 N58 g_b57
     refine Run.st st59 ?_
     show Run p e below s _ _ _ (T59.setTop (mkF m 127 #[.val (.int p1), .val (.int p2), .val (.int p3), .val (.int p4), .val (.int p5), .val (.int p6), .val (.int k0), .val (.int k1), .val (.int k2), .val (.ref b1), .val (.int 2), .val (.int 1), z12, .val (.int wd), .val (.ref sb56), .val (.ref b57), .unset, .unset] []))
     refine Run.x_iload (q := 129) X59 hx (hb hby at_127) rfl rfl ?_
     refine Run.x_iload (q := 131) X59 hx (hb hby at_129) rfl rfl ?_
     refine Run.x_icmpNo (q := 134) X59 hx (hb hby at_131) (tlt (by decide : (1 : Int32) < (2 : Int32))).2.1 rfl ?_
     refine Run.x_aload (q := 136) X59 hx (hb hby at_134) rfl rfl rfl ?_
     refine Run.x_iload (q := 138) X59 hx (hb hby at_136) rfl rfl ?_
     replace A_b1 := ((A_b1.ext E57).keep K58 (ninS ne_b1_b57 nin0)).other W59 ne_b1_b57
     refine Run.y_ldC (q := 139) X59 hx hZ e59 A_b1 (i := 1) (v := (.int k1)) (by decide) rfl (hb hby at_138) rfl ?_
     refine Run.x_iload (q := 141) X59 hx (hb hby at_139) rfl rfl ?_
     by_cases hc141 : k1 = wd
     ·skip
      refine Run.x_icmpNo (q := 144) X59 hx (hb hby at_141) (teq hc141).2 rfl ?_
      refine Run.x_iconst (q := 145) X59 hx (hb hby at_144) (z := (1 : Int32)) rfl rfl ?_
      refine Run.x_goto (q := 149) X59 hx (hb hby at_145) (by decide) (by decide) ?_
      refine Run.x_istore (q := 151) X59 hx #[.val (.int p1), .val (.int p2), .val (.int p3), .val (.int p4), .val (.int p5), .val (.int p6), .val (.int k0), .val (.int k1), .val (.int k2), .val (.ref b1), .val (.int 2), .val (.int 1), z12, .val (.int wd), .val (.ref sb56), .val (.ref b57), .val (.int 1), .unset] (hb hby at_149) rfl rfl ?_
      refine Run.x_goto (q := 157) X59 hx (hb hby at_151) (by decide) (by decide) ?_
      refine Run.x_aload (q := 159) X59 hx (hb hby at_157) rfl rfl rfl ?_
      refine Run.x_iload (q := 161) X59 hx (hb hby at_159) rfl rfl ?_
      replace E_b57 := E_b57.wr W59
      replace F58_0 := F58_0.other W59 (Or.inr (slot_ne (Or.inr (wm43 hw)) (Or.inl (wm45 hw)) (by decide) (t := (.object "java/lang/String")) (t' := .int) (by decide) (by decide)))
      replace Es56 := ((Es56.ext E57).keep K58).wr W59
      replace Fc56 := ((Fc56.ext E57).keep K58 (ninS ne_sb56_b57 nin0)).other W59 (Or.inl ne_sb56_b57)
      replace Fv56 := ((Fv56.ext E57).keep K58 (ninS ne_sb56_b57 nin0)).other W59 (Or.inl ne_sb56_b57)
      replace Ab56 := ((Ab56.ext E57).keep K58 (ninS ne_bts56_b57 nin0)).other W59 ne_bts56_b57
      replace S_COMPACT_STRINGS := S_COMPACT_STRINGS.wr W59
      replace S_SIOOBE_FORMATTER := S_SIOOBE_FORMATTER.wr W59
      replace S__assertionsDisabled := S__assertionsDisabled.wr W59
      replace S_HI_BYTE_SHIFT := S_HI_BYTE_SHIFT.wr W59
      replace S_LO_BYTE_SHIFT := S_LO_BYTE_SHIFT.wr W59
      refine Run.callVI (q := 164) X59 hx hZ e59 (y := (⟨"com/example/sayso/sayso/TextCursor", "at", "(C)Z"⟩ : MethodName)) (z := (⟨"com/example/sayso/sayso/TextCursor", "at", "(C)Z"⟩ : MethodName)) hown (wm46 hw) (wm47 hw) (notFace_of_selects (args := #[]) (mvT hZ (wm49 hw))) (wm49 hw) (wm48 hw) (wm37 hw) (wm50 hw) (by decide) (a := b57) E_b57 (argsL := [(.int wd)]) (rest := []) (c_atl1 l Z a0 hw b57 wd h59 n0 Z59 (1 : Int32) (2 : Int32) sb56 cp bts56 [(.int (k0 >>> ((0 : Int32) &&& 31)).toInt8.toInt32), (.int (k0 >>> ((8 : Int32) &&& 31)).toInt8.toInt32), (.int (k1 >>> ((0 : Int32) &&& 31)).toInt8.toInt32), (.int (k1 >>> ((8 : Int32) &&& 31)).toInt8.toInt32)] (4 : Int32) sf (2 : Int32) 2 (k1 >>> ((0 : Int32) &&& 31)).toInt8.toInt32 (k1 >>> ((8 : Int32) &&& 31)).toInt8.toInt32 k1 E_b57 F58_1 F58_0 Es56 Fc56 Fv56 Ab56 S_COMPACT_STRINGS S_SIOOBE_FORMATTER S__assertionsDisabled S_HI_BYTE_SHIFT S_LO_BYTE_SHIFT hcp (by decide) (by decide) hsf rfl (by decide) (by decide) (by decide) (by decide) (by decide) rfl rfl (own_utf rk1) (own_nr rk1)) pd_19 rfl (by rw [hml]; rfl) (W := 0) rfl (by decide) (by decide) (by decide) (by decide) (hb hby at_161) rfl rfl fun T60 L60 X60 M60 e60 => ?_
      have N60 := Fr.app N59 M60
      refine Run.x_istore (q := 166) X60 hx #[.val (.int p1), .val (.int p2), .val (.int p3), .val (.int p4), .val (.int p5), .val (.int p6), .val (.int k0), .val (.int k1), .val (.int k2), .val (.ref b1), .val (.int 2), .val (.int 1), z12, .val (.int wd), .val (.ref sb56), .val (.ref b57), .val (.int 1), .val (.int (own_b (k1 = wd)))] (hb hby at_164) rfl rfl ?_
      refine Run.x_iload (q := 168) X60 hx (hb hby at_166) rfl rfl ?_
      refine Run.x_iload (q := 170) X60 hx (hb hby at_168) rfl rfl ?_
      refine Run.x_icmpNo (q := 173) X60 hx (hb hby at_170) (teq (own_b1 hc141)).2 rfl ?_
      refine Run.x_aload (q := 175) X60 hx (hb hby at_173) rfl rfl rfl ?_
      refine Run.z_getF (q := 178) X60 hx hZ e60 hown (wm44 hw) F58_1 (hb hby at_175) rfl fun T61 X61 e61 => ?_
      refine Run.x_iload (q := 180) X61 hx (hb hby at_178) rfl rfl ?_
      refine Run.x_icmpNo (q := 183) X61 hx (hb hby at_180) (teq (by decide : (1 : Int32) = (1 : Int32))).2 rfl ?_
      refine Run.x_aload (q := 185) X61 hx (hb hby at_183) rfl rfl rfl ?_
      refine Run.z_getF (q := 188) X61 hx hZ e61 hown (wm84 hw) F58_0 (hb hby at_185) rfl fun T62 X62 e62 => ?_
      refine Run.x_aload (q := 190) X62 hx (hb hby at_188) rfl rfl rfl ?_
      refine Run.st (B := T62.setTop (mkF m 193 #[.val (.int p1), .val (.int p2), .val (.int p3), .val (.int p4), .val (.int p5), .val (.int p6), .val (.int k0), .val (.int k1), .val (.int k2), .val (.ref b1), .val (.int 2), .val (.int 1), z12, .val (.int wd), .val (.ref sb56), .val (.ref b57), .val (.int 1), .val (.int (own_b (k1 = wd)))] [])) (fun t kt => Jvm.RoadKit.acmp (g := (mkF m 190 #[.val (.int p1), .val (.int p2), .val (.int p3), .val (.int p4), .val (.int p5), .val (.int p6), .val (.int k0), .val (.int k1), .val (.int k2), .val (.ref b1), .val (.int 2), .val (.int 1), z12, .val (.int wd), .val (.ref sb56), .val (.ref b57), .val (.int 1), .val (.int (own_b (k1 = wd)))] [(.ref sb56), (.ref sb56)])) X62 hx rfl rfl rfl (pc0 := 190) (pc' := 193) (same := true) rfl (hb hby at_190) rfl (decide_eq_true rfl) (by decide) (by decide) kt) ?_
      refine Run.x_iconst (q := 194) X62 hx (hb hby at_193) (z := (1 : Int32)) rfl rfl ?_
      refine Run.x_goto (q := 198) X62 hx (hb hby at_194) (by decide) (by decide) ?_
      refine Run.retN X62 hx hlk e62 (t := .boolean) hret (by simp) (z' := (1 : Int32)) (by decide) (hb hby at_198) (by decide) (by decide) ?_
      exact ⟨rfl, N60⟩
     ·skip
      refine Run.x_icmpYes (q := 148) X59 hx (hb hby at_141) (feq hc141).2 (by decide) (by decide) ?_
      refine Run.x_iconst (q := 149) X59 hx (hb hby at_148) (z := (0 : Int32)) rfl rfl ?_
      refine Run.x_istore (q := 151) X59 hx #[.val (.int p1), .val (.int p2), .val (.int p3), .val (.int p4), .val (.int p5), .val (.int p6), .val (.int k0), .val (.int k1), .val (.int k2), .val (.ref b1), .val (.int 2), .val (.int 1), z12, .val (.int wd), .val (.ref sb56), .val (.ref b57), .val (.int 0), .unset] (hb hby at_149) rfl rfl ?_
      refine Run.x_goto (q := 157) X59 hx (hb hby at_151) (by decide) (by decide) ?_
      refine Run.x_aload (q := 159) X59 hx (hb hby at_157) rfl rfl rfl ?_
      refine Run.x_iload (q := 161) X59 hx (hb hby at_159) rfl rfl ?_
      replace E_b57 := E_b57.wr W59
      replace F58_0 := F58_0.other W59 (Or.inr (slot_ne (Or.inr (wm43 hw)) (Or.inl (wm45 hw)) (by decide) (t := (.object "java/lang/String")) (t' := .int) (by decide) (by decide)))
      replace Es56 := ((Es56.ext E57).keep K58).wr W59
      replace Fc56 := ((Fc56.ext E57).keep K58 (ninS ne_sb56_b57 nin0)).other W59 (Or.inl ne_sb56_b57)
      replace Fv56 := ((Fv56.ext E57).keep K58 (ninS ne_sb56_b57 nin0)).other W59 (Or.inl ne_sb56_b57)
      replace Ab56 := ((Ab56.ext E57).keep K58 (ninS ne_bts56_b57 nin0)).other W59 ne_bts56_b57
      replace S_COMPACT_STRINGS := S_COMPACT_STRINGS.wr W59
      replace S_SIOOBE_FORMATTER := S_SIOOBE_FORMATTER.wr W59
      replace S__assertionsDisabled := S__assertionsDisabled.wr W59
      replace S_HI_BYTE_SHIFT := S_HI_BYTE_SHIFT.wr W59
      replace S_LO_BYTE_SHIFT := S_LO_BYTE_SHIFT.wr W59
      refine Run.callVI (q := 164) X59 hx hZ e59 (y := (⟨"com/example/sayso/sayso/TextCursor", "at", "(C)Z"⟩ : MethodName)) (z := (⟨"com/example/sayso/sayso/TextCursor", "at", "(C)Z"⟩ : MethodName)) hown (wm46 hw) (wm47 hw) (notFace_of_selects (args := #[]) (mvT hZ (wm49 hw))) (wm49 hw) (wm48 hw) (wm37 hw) (wm50 hw) (by decide) (a := b57) E_b57 (argsL := [(.int wd)]) (rest := []) (c_atl1 l Z a0 hw b57 wd h59 n0 Z59 (1 : Int32) (2 : Int32) sb56 cp bts56 [(.int (k0 >>> ((0 : Int32) &&& 31)).toInt8.toInt32), (.int (k0 >>> ((8 : Int32) &&& 31)).toInt8.toInt32), (.int (k1 >>> ((0 : Int32) &&& 31)).toInt8.toInt32), (.int (k1 >>> ((8 : Int32) &&& 31)).toInt8.toInt32)] (4 : Int32) sf (2 : Int32) 2 (k1 >>> ((0 : Int32) &&& 31)).toInt8.toInt32 (k1 >>> ((8 : Int32) &&& 31)).toInt8.toInt32 k1 E_b57 F58_1 F58_0 Es56 Fc56 Fv56 Ab56 S_COMPACT_STRINGS S_SIOOBE_FORMATTER S__assertionsDisabled S_HI_BYTE_SHIFT S_LO_BYTE_SHIFT hcp (by decide) (by decide) hsf rfl (by decide) (by decide) (by decide) (by decide) (by decide) rfl rfl (own_utf rk1) (own_nr rk1)) pd_19 rfl (by rw [hml]; rfl) (W := 0) rfl (by decide) (by decide) (by decide) (by decide) (hb hby at_161) rfl rfl fun T63 L63 X63 M63 e63 => ?_
      have N63 := Fr.app N59 M63
      refine Run.x_istore (q := 166) X63 hx #[.val (.int p1), .val (.int p2), .val (.int p3), .val (.int p4), .val (.int p5), .val (.int p6), .val (.int k0), .val (.int k1), .val (.int k2), .val (.ref b1), .val (.int 2), .val (.int 1), z12, .val (.int wd), .val (.ref sb56), .val (.ref b57), .val (.int 0), .val (.int (own_b (k1 = wd)))] (hb hby at_164) rfl rfl ?_
      refine Run.x_iload (q := 168) X63 hx (hb hby at_166) rfl rfl ?_
      refine Run.x_iload (q := 170) X63 hx (hb hby at_168) rfl rfl ?_
      refine Run.x_icmpNo (q := 173) X63 hx (hb hby at_170) (teq (own_b0 hc141)).2 rfl ?_
      refine Run.x_aload (q := 175) X63 hx (hb hby at_173) rfl rfl rfl ?_
      refine Run.z_getF (q := 178) X63 hx hZ e63 hown (wm44 hw) F58_1 (hb hby at_175) rfl fun T64 X64 e64 => ?_
      refine Run.x_iload (q := 180) X64 hx (hb hby at_178) rfl rfl ?_
      refine Run.x_icmpNo (q := 183) X64 hx (hb hby at_180) (teq (by decide : (1 : Int32) = (1 : Int32))).2 rfl ?_
      refine Run.x_aload (q := 185) X64 hx (hb hby at_183) rfl rfl rfl ?_
      refine Run.z_getF (q := 188) X64 hx hZ e64 hown (wm84 hw) F58_0 (hb hby at_185) rfl fun T65 X65 e65 => ?_
      refine Run.x_aload (q := 190) X65 hx (hb hby at_188) rfl rfl rfl ?_
      refine Run.st (B := T65.setTop (mkF m 193 #[.val (.int p1), .val (.int p2), .val (.int p3), .val (.int p4), .val (.int p5), .val (.int p6), .val (.int k0), .val (.int k1), .val (.int k2), .val (.ref b1), .val (.int 2), .val (.int 1), z12, .val (.int wd), .val (.ref sb56), .val (.ref b57), .val (.int 0), .val (.int (own_b (k1 = wd)))] [])) (fun t kt => Jvm.RoadKit.acmp (g := (mkF m 190 #[.val (.int p1), .val (.int p2), .val (.int p3), .val (.int p4), .val (.int p5), .val (.int p6), .val (.int k0), .val (.int k1), .val (.int k2), .val (.ref b1), .val (.int 2), .val (.int 1), z12, .val (.int wd), .val (.ref sb56), .val (.ref b57), .val (.int 0), .val (.int (own_b (k1 = wd)))] [(.ref sb56), (.ref sb56)])) X65 hx rfl rfl rfl (pc0 := 190) (pc' := 193) (same := true) rfl (hb hby at_190) rfl (decide_eq_true rfl) (by decide) (by decide) kt) ?_
      refine Run.x_iconst (q := 194) X65 hx (hb hby at_193) (z := (1 : Int32)) rfl rfl ?_
      refine Run.x_goto (q := 198) X65 hx (hb hby at_194) (by decide) (by decide) ?_
      refine Run.retN X65 hx hlk e65 (t := .boolean) hret (by simp) (z' := (1 : Int32)) (by decide) (hb hby at_198) (by decide) (by decide) ?_
      exact ⟨rfl, N63⟩
    ·skip
     show Run p e below s _ _ _ (T4.setTop (mkF m 96 #[.val (.int p1), .val (.int p2), .val (.int p3), .val (.int p4), .val (.int p5), .val (.int p6), .val (.int k0), .val (.int k1), .val (.int k2), .val (.ref b1), .val (.int 2), .val (.int 2), z12, .val (.int wd), .unset, .unset, .unset, .unset] []))
     refine Run.x_iload (q := 98) X4 hx (hb hby at_96) rfl rfl ?_
     refine Run.x_iload (q := 100) X4 hx (hb hby at_98) rfl rfl ?_
     refine Run.x_iload (q := 102) X4 hx (hb hby at_100) rfl rfl ?_
     refine Run.x_iload (q := 104) X4 hx (hb hby at_102) rfl rfl ?_
     replace S_COMPACT_STRINGS := (((S_COMPACT_STRINGS.ext E1).wr W2).wr W3).wr W4
     replace S__assertionsDisabled := (((S__assertionsDisabled.ext E1).wr W2).wr W3).wr W4
     replace S_HI_BYTE_SHIFT := (((S_HI_BYTE_SHIFT.ext E1).wr W2).wr W3).wr W4
     replace S_LO_BYTE_SHIFT := (((S_LO_BYTE_SHIFT.ext E1).wr W2).wr W3).wr W4
     refine Run.callS X4 hx hZ e4 (y := (⟨"com/example/sayso/sayso/TextCursorAtPinLaw", "make", "(ICCC)Ljava/lang/String;"⟩ : MethodName)) hown (wm2 hw) (wm3 hw) (wm4 hw) (wm5 hw) (by decide) (argsL := [(.int 2), (.int k0), (.int k1), (.int k2)]) (rest := []) (c_mk_2_1 l Z a0 hw k0 k1 k2 h4 n0 Z4 cp S_COMPACT_STRINGS S__assertionsDisabled S_HI_BYTE_SHIFT S_LO_BYTE_SHIFT hcp hA rk0 rk1 rk2) pd_17 rfl (by rw [hml]; rfl) (W := 0) rfl (by decide) (by decide) (by decide) (by decide) (hb hby at_104) rfl ?_
     intro T66 v66 L66 X66 q66
     obtain ⟨sb66, bts66, rfl, M66, K66, sz66, Es66, Fv66, Fc66, Ab66⟩ := q66
     have N66 := Fr.app N4 M66
     show Run p e below s _ _ _ (T66.setTop (mkF m 107 #[.val (.int p1), .val (.int p2), .val (.int p3), .val (.int p4), .val (.int p5), .val (.int p6), .val (.int k0), .val (.int k1), .val (.int k2), .val (.ref b1), .val (.int 2), .val (.int 2), z12, .val (.int wd), .unset, .unset, .unset, .unset] [(.ref sb66)]))
     have ne_b1_sb66 : b1 ≠ sb66 := Nat.ne_of_lt (Nat.lt_of_lt_of_le A_b1.lt sz66)
     replace S_COMPACT_STRINGS := Sta_keep S_COMPACT_STRINGS K66 all0
     replace S_SIOOBE_FORMATTER := (((S_SIOOBE_FORMATTER.ext E1).wr W2).wr W3).wr W4
     replace S_SIOOBE_FORMATTER := Sta_keep S_SIOOBE_FORMATTER K66 all0
     replace S__assertionsDisabled := Sta_keep S__assertionsDisabled K66 all0
     replace S_HI_BYTE_SHIFT := Sta_keep S_HI_BYTE_SHIFT K66 all0
     replace S_LO_BYTE_SHIFT := Sta_keep S_LO_BYTE_SHIFT K66 all0
     have Z66 : n0 ≤ T66.heap.size := Nat.le_trans Z4 K66.1
     replace KP := KP.trans K66 all0
     refine Run.x_astore (q := 109) X66 hx #[.val (.int p1), .val (.int p2), .val (.int p3), .val (.int p4), .val (.int p5), .val (.int p6), .val (.int k0), .val (.int k1), .val (.int k2), .val (.ref b1), .val (.int 2), .val (.int 2), z12, .val (.int wd), .val (.ref sb66), .unset, .unset, .unset] (hb hby at_107) rfl rfl rfl ?_
     obtain ⟨T67, h67, X67, e67, E67, A67, D67, -, st67⟩ := newO X66 hx hZ hown (wm35 hw) (wm36 hw) (wm37 hw) rfl (g := (mkF m 109 #[.val (.int p1), .val (.int p2), .val (.int p3), .val (.int p4), .val (.int p5), .val (.int p6), .val (.int k0), .val (.int k1), .val (.int k2), .val (.ref b1), .val (.int 2), .val (.int 2), z12, .val (.int wd), .val (.ref sb66), .unset, .unset, .unset] [])) rfl (hb hby at_109) (by decide) (by decide)
     obtain ⟨b67, gg67⟩ : ∃ z, z = T66.heap.size := ⟨_, rfl⟩
     rw [← gg67] at A67 D67 st67
     have g_b67 : n0 ≤ b67 := Nat.le_trans Z66 (Nat.le_of_eq gg67.symm)
     replace A_b1 := A_b1.keep K66 nin0
     have ne_b1_b67 : b1 ≠ b67 := Nat.ne_of_lt (Nat.lt_of_lt_of_le A_b1.lt (Nat.le_of_eq gg67.symm))
     have ne_sb66_b67 : sb66 ≠ b67 := Nat.ne_of_lt (Nat.lt_of_lt_of_le Es66.lt (Nat.le_of_eq gg67.symm))
     have ne_bts66_b67 : bts66 ≠ b67 := Nat.ne_of_lt (Nat.lt_of_lt_of_le Ab66.lt (Nat.le_of_eq gg67.symm))
     have sz_b67 : h0.size ≤ b67 := Nat.le_trans KP.1 (Nat.le_of_eq gg67.symm)
     have Z67 : n0 ≤ h67.size := Nat.le_trans Z66 E67.1
     replace KP := KP.ext E67
     have E_b67 := A67
     have F_b67_text : Fld Z h67 b67 "com/example/sayso/sayso/TextCursor" "text" "Ljava/lang/String;" .null := D67 (Or.inr (wm43 hw)) (ty := (.object "java/lang/String")) (by decide)
     have F_b67_position : Fld Z h67 b67 "com/example/sayso/sayso/TextCursor" "position" "I" (.int 0) := D67 (Or.inl (wm45 hw)) (ty := .int) (by decide)
     refine Run.st st67 ?_
     show Run p e below s _ _ _ (T67.setTop (mkF m 112 #[.val (.int p1), .val (.int p2), .val (.int p3), .val (.int p4), .val (.int p5), .val (.int p6), .val (.int k0), .val (.int k1), .val (.int k2), .val (.ref b1), .val (.int 2), .val (.int 2), z12, .val (.int wd), .val (.ref sb66), .unset, .unset, .unset] [(.ref b67)]))
     refine Run.x_dup (q := 113) X67 hx (hb hby at_112) rfl rfl ?_
     refine Run.x_aload (q := 115) X67 hx (hb hby at_113) rfl rfl rfl ?_
     refine Run.callC X67 hx hZ e67 (y := (⟨"com/example/sayso/sayso/TextCursor", "<init>", "(Ljava/lang/String;)V"⟩ : MethodName)) hown rfl (wm38 hw) (wm39 hw) (wm37 hw) (wm40 hw) (by decide) (a := b67) (argsL := [(.ref sb66)]) (rest := [(.ref b67)]) (c_tci l Z a0 hw b67 sb66 h67 n0 Z67 E_b67 F_b67_text F_b67_position g_b67) pd_18 rfl (by rw [hml]; rfl) (W := 1) rfl (by decide) (by decide) (by decide) (by decide) (hb hby at_115) rfl ?_
     intro T68 v68 L68 X68 q68
     obtain ⟨rfl, M68, K68, E68, F68_0, F68_1⟩ := q68
     have N68 := Fr.app N66 M68
     show Run p e below s _ _ _ (T68.setTop (mkF m 118 #[.val (.int p1), .val (.int p2), .val (.int p3), .val (.int p4), .val (.int p5), .val (.int p6), .val (.int k0), .val (.int k1), .val (.int k2), .val (.ref b1), .val (.int 2), .val (.int 2), z12, .val (.int wd), .val (.ref sb66), .unset, .unset, .unset] [(.ref b67)]))
     replace S_COMPACT_STRINGS := S_COMPACT_STRINGS.ext E67
     replace S_COMPACT_STRINGS := Sta_keep S_COMPACT_STRINGS K68 (allS (Exa_ns E_b67) all0)
     replace S_SIOOBE_FORMATTER := S_SIOOBE_FORMATTER.ext E67
     replace S_SIOOBE_FORMATTER := Sta_keep S_SIOOBE_FORMATTER K68 (allS (Exa_ns E_b67) all0)
     replace S__assertionsDisabled := S__assertionsDisabled.ext E67
     replace S__assertionsDisabled := Sta_keep S__assertionsDisabled K68 (allS (Exa_ns E_b67) all0)
     replace S_HI_BYTE_SHIFT := S_HI_BYTE_SHIFT.ext E67
     replace S_HI_BYTE_SHIFT := Sta_keep S_HI_BYTE_SHIFT K68 (allS (Exa_ns E_b67) all0)
     replace S_LO_BYTE_SHIFT := S_LO_BYTE_SHIFT.ext E67
     replace S_LO_BYTE_SHIFT := Sta_keep S_LO_BYTE_SHIFT K68 (allS (Exa_ns E_b67) all0)
     have Z68 : n0 ≤ T68.heap.size := Nat.le_trans Z67 K68.1
     replace KP := KP.trans K68 (allS (Or.inr sz_b67) all0)
     refine Run.x_astore (q := 120) X68 hx #[.val (.int p1), .val (.int p2), .val (.int p3), .val (.int p4), .val (.int p5), .val (.int p6), .val (.int k0), .val (.int k1), .val (.int k2), .val (.ref b1), .val (.int 2), .val (.int 2), z12, .val (.int wd), .val (.ref sb66), .val (.ref b67), .unset, .unset] (hb hby at_118) rfl rfl rfl ?_
     refine Run.x_aload (q := 122) X68 hx (hb hby at_120) rfl rfl rfl ?_
     refine Run.x_iload (q := 124) X68 hx (hb hby at_122) rfl rfl ?_
     replace E_b67 := E_b67.keep K68
     obtain ⟨T69, h69, X69, e69, W69, st69⟩ := putF X68 hx hZ hown (host := "") (Or.inl (wm44 hw)) Via.refl rfl F68_1 E_b67 (Or.inl (wm45 hw)) (wm36 hw) (ty := .int) (by decide) rfl rfl (g := (mkF m 124 #[.val (.int p1), .val (.int p2), .val (.int p3), .val (.int p4), .val (.int p5), .val (.int p6), .val (.int k0), .val (.int k1), .val (.int k2), .val (.ref b1), .val (.int 2), .val (.int 2), z12, .val (.int wd), .val (.ref sb66), .val (.ref b67), .unset, .unset] [(.int 2), (.ref b67)])) rfl rfl (hb hby at_124)
     replace F68_1 := F68_1.same W69
     have Z69 : n0 ≤ h69.size := Nat.le_trans Z68 (Nat.le_of_eq W69.size.symm)
     replace KP := KP.wr W69 (Or.inr sz_b67)
     have N69 := Fr.snoc X69 N68 g_b67
     refine Run.st st69 ?_
     show Run p e below s _ _ _ (T69.setTop (mkF m 127 #[.val (.int p1), .val (.int p2), .val (.int p3), .val (.int p4), .val (.int p5), .val (.int p6), .val (.int k0), .val (.int k1), .val (.int k2), .val (.ref b1), .val (.int 2), .val (.int 2), z12, .val (.int wd), .val (.ref sb66), .val (.ref b67), .unset, .unset] []))
     refine Run.x_iload (q := 129) X69 hx (hb hby at_127) rfl rfl ?_
     refine Run.x_iload (q := 131) X69 hx (hb hby at_129) rfl rfl ?_
     refine Run.x_icmpYes (q := 154) X69 hx (hb hby at_131) (flt (by decide : ¬ ((2 : Int32) < (2 : Int32)))).2.1 (by decide) (by decide) ?_
     refine Run.x_iconst (q := 155) X69 hx (hb hby at_154) (z := (0 : Int32)) rfl rfl ?_
     refine Run.x_istore (q := 157) X69 hx #[.val (.int p1), .val (.int p2), .val (.int p3), .val (.int p4), .val (.int p5), .val (.int p6), .val (.int k0), .val (.int k1), .val (.int k2), .val (.ref b1), .val (.int 2), .val (.int 2), z12, .val (.int wd), .val (.ref sb66), .val (.ref b67), .val (.int 0), .unset] (hb hby at_155) rfl rfl ?_
     refine Run.x_aload (q := 159) X69 hx (hb hby at_157) rfl rfl rfl ?_
     refine Run.x_iload (q := 161) X69 hx (hb hby at_159) rfl rfl ?_
     replace E_b67 := E_b67.wr W69
     replace F68_0 := F68_0.other W69 (Or.inr (slot_ne (Or.inr (wm43 hw)) (Or.inl (wm45 hw)) (by decide) (t := (.object "java/lang/String")) (t' := .int) (by decide) (by decide)))
     replace Es66 := ((Es66.ext E67).keep K68).wr W69
     replace Fc66 := ((Fc66.ext E67).keep K68 (ninS ne_sb66_b67 nin0)).other W69 (Or.inl ne_sb66_b67)
     replace Fv66 := ((Fv66.ext E67).keep K68 (ninS ne_sb66_b67 nin0)).other W69 (Or.inl ne_sb66_b67)
     replace Ab66 := ((Ab66.ext E67).keep K68 (ninS ne_bts66_b67 nin0)).other W69 ne_bts66_b67
     replace S_COMPACT_STRINGS := S_COMPACT_STRINGS.wr W69
     refine Run.callVI (q := 164) X69 hx hZ e69 (y := (⟨"com/example/sayso/sayso/TextCursor", "at", "(C)Z"⟩ : MethodName)) (z := (⟨"com/example/sayso/sayso/TextCursor", "at", "(C)Z"⟩ : MethodName)) hown (wm46 hw) (wm47 hw) (notFace_of_selects (args := #[]) (mvT hZ (wm49 hw))) (wm49 hw) (wm48 hw) (wm37 hw) (wm50 hw) (by decide) (a := b67) E_b67 (argsL := [(.int wd)]) (rest := []) (c_atg1 l Z a0 hw b67 wd h69 n0 Z69 (2 : Int32) (2 : Int32) sb66 cp bts66 [(.int (k0 >>> ((0 : Int32) &&& 31)).toInt8.toInt32), (.int (k0 >>> ((8 : Int32) &&& 31)).toInt8.toInt32), (.int (k1 >>> ((0 : Int32) &&& 31)).toInt8.toInt32), (.int (k1 >>> ((8 : Int32) &&& 31)).toInt8.toInt32)] (4 : Int32) E_b67 F68_1 F68_0 Es66 Fc66 Fv66 Ab66 S_COMPACT_STRINGS hcp rfl (by decide) (by decide)) pd_19 rfl (by rw [hml]; rfl) (W := 0) rfl (by decide) (by decide) (by decide) (by decide) (hb hby at_161) rfl rfl fun T70 L70 X70 M70 e70 => ?_
     have N70 := Fr.app N69 M70
     refine Run.x_istore (q := 166) X70 hx #[.val (.int p1), .val (.int p2), .val (.int p3), .val (.int p4), .val (.int p5), .val (.int p6), .val (.int k0), .val (.int k1), .val (.int k2), .val (.ref b1), .val (.int 2), .val (.int 2), z12, .val (.int wd), .val (.ref sb66), .val (.ref b67), .val (.int 0), .val (.int 0)] (hb hby at_164) rfl rfl ?_
     refine Run.x_iload (q := 168) X70 hx (hb hby at_166) rfl rfl ?_
     refine Run.x_iload (q := 170) X70 hx (hb hby at_168) rfl rfl ?_
     refine Run.x_icmpNo (q := 173) X70 hx (hb hby at_170) (teq (by decide : (0 : Int32) = (0 : Int32))).2 rfl ?_
     refine Run.x_aload (q := 175) X70 hx (hb hby at_173) rfl rfl rfl ?_
     refine Run.z_getF (q := 178) X70 hx hZ e70 hown (wm44 hw) F68_1 (hb hby at_175) rfl fun T71 X71 e71 => ?_
     refine Run.x_iload (q := 180) X71 hx (hb hby at_178) rfl rfl ?_
     refine Run.x_icmpNo (q := 183) X71 hx (hb hby at_180) (teq (by decide : (2 : Int32) = (2 : Int32))).2 rfl ?_
     refine Run.x_aload (q := 185) X71 hx (hb hby at_183) rfl rfl rfl ?_
     refine Run.z_getF (q := 188) X71 hx hZ e71 hown (wm84 hw) F68_0 (hb hby at_185) rfl fun T72 X72 e72 => ?_
     refine Run.x_aload (q := 190) X72 hx (hb hby at_188) rfl rfl rfl ?_
     refine Run.st (B := T72.setTop (mkF m 193 #[.val (.int p1), .val (.int p2), .val (.int p3), .val (.int p4), .val (.int p5), .val (.int p6), .val (.int k0), .val (.int k1), .val (.int k2), .val (.ref b1), .val (.int 2), .val (.int 2), z12, .val (.int wd), .val (.ref sb66), .val (.ref b67), .val (.int 0), .val (.int 0)] [])) (fun t kt => Jvm.RoadKit.acmp (g := (mkF m 190 #[.val (.int p1), .val (.int p2), .val (.int p3), .val (.int p4), .val (.int p5), .val (.int p6), .val (.int k0), .val (.int k1), .val (.int k2), .val (.ref b1), .val (.int 2), .val (.int 2), z12, .val (.int wd), .val (.ref sb66), .val (.ref b67), .val (.int 0), .val (.int 0)] [(.ref sb66), (.ref sb66)])) X72 hx rfl rfl rfl (pc0 := 190) (pc' := 193) (same := true) rfl (hb hby at_190) rfl (decide_eq_true rfl) (by decide) (by decide) kt) ?_
     refine Run.x_iconst (q := 194) X72 hx (hb hby at_193) (z := (1 : Int32)) rfl rfl ?_
     refine Run.x_goto (q := 198) X72 hx (hb hby at_194) (by decide) (by decide) ?_
     refine Run.retN X72 hx hlk e72 (t := .boolean) hret (by simp) (z' := (1 : Int32)) (by decide) (hb hby at_198) (by decide) (by decide) ?_
     exact ⟨rfl, N70⟩
   ·skip
    have ha0 : ¬ (255 : Int32) < k0 := fun q => hA (Or.inl q)
    have ha1 : ¬ (255 : Int32) < k1 := fun q => hA (Or.inr q)
    rcases own_s2 hpp with rfl | rfl | rfl
    ·skip
     show Run p e below s _ _ _ (T4.setTop (mkF m 96 #[.val (.int p1), .val (.int p2), .val (.int p3), .val (.int p4), .val (.int p5), .val (.int p6), .val (.int k0), .val (.int k1), .val (.int k2), .val (.ref b1), .val (.int 2), .val (.int 0), z12, .val (.int wd), .unset, .unset, .unset, .unset] []))
     refine Run.x_iload (q := 98) X4 hx (hb hby at_96) rfl rfl ?_
     refine Run.x_iload (q := 100) X4 hx (hb hby at_98) rfl rfl ?_
     refine Run.x_iload (q := 102) X4 hx (hb hby at_100) rfl rfl ?_
     refine Run.x_iload (q := 104) X4 hx (hb hby at_102) rfl rfl ?_
     replace S_COMPACT_STRINGS := (((S_COMPACT_STRINGS.ext E1).wr W2).wr W3).wr W4
     refine Run.callS X4 hx hZ e4 (y := (⟨"com/example/sayso/sayso/TextCursorAtPinLaw", "make", "(ICCC)Ljava/lang/String;"⟩ : MethodName)) hown (wm2 hw) (wm3 hw) (wm4 hw) (wm5 hw) (by decide) (argsL := [(.int 2), (.int k0), (.int k1), (.int k2)]) (rest := []) (c_mk_2_0 l Z a0 hw k0 k1 k2 h4 n0 Z4 cp S_COMPACT_STRINGS hcp ha0 ha1 rk0 rk1 rk2) pd_17 rfl (by rw [hml]; rfl) (W := 0) rfl (by decide) (by decide) (by decide) (by decide) (hb hby at_104) rfl ?_
     intro T73 v73 L73 X73 q73
     obtain ⟨sb73, bts73, rfl, M73, K73, sz73, Es73, Fv73, Fc73, Ab73⟩ := q73
     have N73 := Fr.app N4 M73
     show Run p e below s _ _ _ (T73.setTop (mkF m 107 #[.val (.int p1), .val (.int p2), .val (.int p3), .val (.int p4), .val (.int p5), .val (.int p6), .val (.int k0), .val (.int k1), .val (.int k2), .val (.ref b1), .val (.int 2), .val (.int 0), z12, .val (.int wd), .unset, .unset, .unset, .unset] [(.ref sb73)]))
     have ne_b1_sb73 : b1 ≠ sb73 := Nat.ne_of_lt (Nat.lt_of_lt_of_le A_b1.lt sz73)
     replace S_COMPACT_STRINGS := Sta_keep S_COMPACT_STRINGS K73 all0
     replace S_SIOOBE_FORMATTER := (((S_SIOOBE_FORMATTER.ext E1).wr W2).wr W3).wr W4
     replace S_SIOOBE_FORMATTER := Sta_keep S_SIOOBE_FORMATTER K73 all0
     replace S__assertionsDisabled := (((S__assertionsDisabled.ext E1).wr W2).wr W3).wr W4
     replace S__assertionsDisabled := Sta_keep S__assertionsDisabled K73 all0
     replace S_HI_BYTE_SHIFT := (((S_HI_BYTE_SHIFT.ext E1).wr W2).wr W3).wr W4
     replace S_HI_BYTE_SHIFT := Sta_keep S_HI_BYTE_SHIFT K73 all0
     replace S_LO_BYTE_SHIFT := (((S_LO_BYTE_SHIFT.ext E1).wr W2).wr W3).wr W4
     replace S_LO_BYTE_SHIFT := Sta_keep S_LO_BYTE_SHIFT K73 all0
     have Z73 : n0 ≤ T73.heap.size := Nat.le_trans Z4 K73.1
     replace KP := KP.trans K73 all0
     refine Run.x_astore (q := 109) X73 hx #[.val (.int p1), .val (.int p2), .val (.int p3), .val (.int p4), .val (.int p5), .val (.int p6), .val (.int k0), .val (.int k1), .val (.int k2), .val (.ref b1), .val (.int 2), .val (.int 0), z12, .val (.int wd), .val (.ref sb73), .unset, .unset, .unset] (hb hby at_107) rfl rfl rfl ?_
     obtain ⟨T74, h74, X74, e74, E74, A74, D74, -, st74⟩ := newO X73 hx hZ hown (wm35 hw) (wm36 hw) (wm37 hw) rfl (g := (mkF m 109 #[.val (.int p1), .val (.int p2), .val (.int p3), .val (.int p4), .val (.int p5), .val (.int p6), .val (.int k0), .val (.int k1), .val (.int k2), .val (.ref b1), .val (.int 2), .val (.int 0), z12, .val (.int wd), .val (.ref sb73), .unset, .unset, .unset] [])) rfl (hb hby at_109) (by decide) (by decide)
     obtain ⟨b74, gg74⟩ : ∃ z, z = T73.heap.size := ⟨_, rfl⟩
     rw [← gg74] at A74 D74 st74
     have g_b74 : n0 ≤ b74 := Nat.le_trans Z73 (Nat.le_of_eq gg74.symm)
     replace A_b1 := A_b1.keep K73 nin0
     have ne_b1_b74 : b1 ≠ b74 := Nat.ne_of_lt (Nat.lt_of_lt_of_le A_b1.lt (Nat.le_of_eq gg74.symm))
     have ne_sb73_b74 : sb73 ≠ b74 := Nat.ne_of_lt (Nat.lt_of_lt_of_le Es73.lt (Nat.le_of_eq gg74.symm))
     have ne_bts73_b74 : bts73 ≠ b74 := Nat.ne_of_lt (Nat.lt_of_lt_of_le Ab73.lt (Nat.le_of_eq gg74.symm))
     have sz_b74 : h0.size ≤ b74 := Nat.le_trans KP.1 (Nat.le_of_eq gg74.symm)
     have Z74 : n0 ≤ h74.size := Nat.le_trans Z73 E74.1
     replace KP := KP.ext E74
     have E_b74 := A74
     have F_b74_text : Fld Z h74 b74 "com/example/sayso/sayso/TextCursor" "text" "Ljava/lang/String;" .null := D74 (Or.inr (wm43 hw)) (ty := (.object "java/lang/String")) (by decide)
     have F_b74_position : Fld Z h74 b74 "com/example/sayso/sayso/TextCursor" "position" "I" (.int 0) := D74 (Or.inl (wm45 hw)) (ty := .int) (by decide)
     refine Run.st st74 ?_
     show Run p e below s _ _ _ (T74.setTop (mkF m 112 #[.val (.int p1), .val (.int p2), .val (.int p3), .val (.int p4), .val (.int p5), .val (.int p6), .val (.int k0), .val (.int k1), .val (.int k2), .val (.ref b1), .val (.int 2), .val (.int 0), z12, .val (.int wd), .val (.ref sb73), .unset, .unset, .unset] [(.ref b74)]))
     refine Run.x_dup (q := 113) X74 hx (hb hby at_112) rfl rfl ?_
     refine Run.x_aload (q := 115) X74 hx (hb hby at_113) rfl rfl rfl ?_
     refine Run.callC X74 hx hZ e74 (y := (⟨"com/example/sayso/sayso/TextCursor", "<init>", "(Ljava/lang/String;)V"⟩ : MethodName)) hown rfl (wm38 hw) (wm39 hw) (wm37 hw) (wm40 hw) (by decide) (a := b74) (argsL := [(.ref sb73)]) (rest := [(.ref b74)]) (c_tci l Z a0 hw b74 sb73 h74 n0 Z74 E_b74 F_b74_text F_b74_position g_b74) pd_18 rfl (by rw [hml]; rfl) (W := 1) rfl (by decide) (by decide) (by decide) (by decide) (hb hby at_115) rfl ?_
     intro T75 v75 L75 X75 q75
     obtain ⟨rfl, M75, K75, E75, F75_0, F75_1⟩ := q75
     have N75 := Fr.app N73 M75
     show Run p e below s _ _ _ (T75.setTop (mkF m 118 #[.val (.int p1), .val (.int p2), .val (.int p3), .val (.int p4), .val (.int p5), .val (.int p6), .val (.int k0), .val (.int k1), .val (.int k2), .val (.ref b1), .val (.int 2), .val (.int 0), z12, .val (.int wd), .val (.ref sb73), .unset, .unset, .unset] [(.ref b74)]))
     replace S_COMPACT_STRINGS := S_COMPACT_STRINGS.ext E74
     replace S_COMPACT_STRINGS := Sta_keep S_COMPACT_STRINGS K75 (allS (Exa_ns E_b74) all0)
     replace S_SIOOBE_FORMATTER := S_SIOOBE_FORMATTER.ext E74
     replace S_SIOOBE_FORMATTER := Sta_keep S_SIOOBE_FORMATTER K75 (allS (Exa_ns E_b74) all0)
     replace S__assertionsDisabled := S__assertionsDisabled.ext E74
     replace S__assertionsDisabled := Sta_keep S__assertionsDisabled K75 (allS (Exa_ns E_b74) all0)
     replace S_HI_BYTE_SHIFT := S_HI_BYTE_SHIFT.ext E74
     replace S_HI_BYTE_SHIFT := Sta_keep S_HI_BYTE_SHIFT K75 (allS (Exa_ns E_b74) all0)
     replace S_LO_BYTE_SHIFT := S_LO_BYTE_SHIFT.ext E74
     replace S_LO_BYTE_SHIFT := Sta_keep S_LO_BYTE_SHIFT K75 (allS (Exa_ns E_b74) all0)
     have Z75 : n0 ≤ T75.heap.size := Nat.le_trans Z74 K75.1
     replace KP := KP.trans K75 (allS (Or.inr sz_b74) all0)
     refine Run.x_astore (q := 120) X75 hx #[.val (.int p1), .val (.int p2), .val (.int p3), .val (.int p4), .val (.int p5), .val (.int p6), .val (.int k0), .val (.int k1), .val (.int k2), .val (.ref b1), .val (.int 2), .val (.int 0), z12, .val (.int wd), .val (.ref sb73), .val (.ref b74), .unset, .unset] (hb hby at_118) rfl rfl rfl ?_
     refine Run.x_aload (q := 122) X75 hx (hb hby at_120) rfl rfl rfl ?_
     refine Run.x_iload (q := 124) X75 hx (hb hby at_122) rfl rfl ?_
     replace E_b74 := E_b74.keep K75
     obtain ⟨T76, h76, X76, e76, W76, st76⟩ := putF X75 hx hZ hown (host := "") (Or.inl (wm44 hw)) Via.refl rfl F75_1 E_b74 (Or.inl (wm45 hw)) (wm36 hw) (ty := .int) (by decide) rfl rfl (g := (mkF m 124 #[.val (.int p1), .val (.int p2), .val (.int p3), .val (.int p4), .val (.int p5), .val (.int p6), .val (.int k0), .val (.int k1), .val (.int k2), .val (.ref b1), .val (.int 2), .val (.int 0), z12, .val (.int wd), .val (.ref sb73), .val (.ref b74), .unset, .unset] [(.int 0), (.ref b74)])) rfl rfl (hb hby at_124)
     replace F75_1 := F75_1.same W76
     have Z76 : n0 ≤ h76.size := Nat.le_trans Z75 (Nat.le_of_eq W76.size.symm)
     replace KP := KP.wr W76 (Or.inr sz_b74)
     have N76 := Fr.snoc X76 N75 g_b74
     refine Run.st st76 ?_
     show Run p e below s _ _ _ (T76.setTop (mkF m 127 #[.val (.int p1), .val (.int p2), .val (.int p3), .val (.int p4), .val (.int p5), .val (.int p6), .val (.int k0), .val (.int k1), .val (.int k2), .val (.ref b1), .val (.int 2), .val (.int 0), z12, .val (.int wd), .val (.ref sb73), .val (.ref b74), .unset, .unset] []))
     refine Run.x_iload (q := 129) X76 hx (hb hby at_127) rfl rfl ?_
     refine Run.x_iload (q := 131) X76 hx (hb hby at_129) rfl rfl ?_
     refine Run.x_icmpNo (q := 134) X76 hx (hb hby at_131) (tlt (by decide : (0 : Int32) < (2 : Int32))).2.1 rfl ?_
     refine Run.x_aload (q := 136) X76 hx (hb hby at_134) rfl rfl rfl ?_
     refine Run.x_iload (q := 138) X76 hx (hb hby at_136) rfl rfl ?_
     replace A_b1 := ((A_b1.ext E74).keep K75 (ninS ne_b1_b74 nin0)).other W76 ne_b1_b74
     refine Run.y_ldC (q := 139) X76 hx hZ e76 A_b1 (i := 0) (v := (.int k0)) (by decide) rfl (hb hby at_138) rfl ?_
     refine Run.x_iload (q := 141) X76 hx (hb hby at_139) rfl rfl ?_
     by_cases hc141 : k0 = wd
     ·skip
      refine Run.x_icmpNo (q := 144) X76 hx (hb hby at_141) (teq hc141).2 rfl ?_
      refine Run.x_iconst (q := 145) X76 hx (hb hby at_144) (z := (1 : Int32)) rfl rfl ?_
      refine Run.x_goto (q := 149) X76 hx (hb hby at_145) (by decide) (by decide) ?_
      refine Run.x_istore (q := 151) X76 hx #[.val (.int p1), .val (.int p2), .val (.int p3), .val (.int p4), .val (.int p5), .val (.int p6), .val (.int k0), .val (.int k1), .val (.int k2), .val (.ref b1), .val (.int 2), .val (.int 0), z12, .val (.int wd), .val (.ref sb73), .val (.ref b74), .val (.int 1), .unset] (hb hby at_149) rfl rfl ?_
      refine Run.x_goto (q := 157) X76 hx (hb hby at_151) (by decide) (by decide) ?_
      refine Run.x_aload (q := 159) X76 hx (hb hby at_157) rfl rfl rfl ?_
      refine Run.x_iload (q := 161) X76 hx (hb hby at_159) rfl rfl ?_
      replace E_b74 := E_b74.wr W76
      replace F75_0 := F75_0.other W76 (Or.inr (slot_ne (Or.inr (wm43 hw)) (Or.inl (wm45 hw)) (by decide) (t := (.object "java/lang/String")) (t' := .int) (by decide) (by decide)))
      replace Es73 := ((Es73.ext E74).keep K75).wr W76
      replace Fc73 := ((Fc73.ext E74).keep K75 (ninS ne_sb73_b74 nin0)).other W76 (Or.inl ne_sb73_b74)
      replace Fv73 := ((Fv73.ext E74).keep K75 (ninS ne_sb73_b74 nin0)).other W76 (Or.inl ne_sb73_b74)
      replace Ab73 := ((Ab73.ext E74).keep K75 (ninS ne_bts73_b74 nin0)).other W76 ne_bts73_b74
      replace S_COMPACT_STRINGS := S_COMPACT_STRINGS.wr W76
      replace S_SIOOBE_FORMATTER := S_SIOOBE_FORMATTER.wr W76
      refine Run.callVI (q := 164) X76 hx hZ e76 (y := (⟨"com/example/sayso/sayso/TextCursor", "at", "(C)Z"⟩ : MethodName)) (z := (⟨"com/example/sayso/sayso/TextCursor", "at", "(C)Z"⟩ : MethodName)) hown (wm46 hw) (wm47 hw) (notFace_of_selects (args := #[]) (mvT hZ (wm49 hw))) (wm49 hw) (wm48 hw) (wm37 hw) (wm50 hw) (by decide) (a := b74) E_b74 (argsL := [(.int wd)]) (rest := []) (c_atl0 l Z a0 hw b74 wd h76 n0 Z76 (0 : Int32) (2 : Int32) sb73 cp bts73 [(.int k0.toInt8.toInt32), (.int k1.toInt8.toInt32)] (2 : Int32) sf 0 k0.toInt8.toInt32 k0 E_b74 F75_1 F75_0 Es73 Fc73 Fv73 Ab73 S_COMPACT_STRINGS S_SIOOBE_FORMATTER hcp (by decide) (by decide) hsf rfl (by decide) rfl (by decide) (by decide) (own_lat rk0 ha0) (own_nr rk0)) pd_19 rfl (by rw [hml]; rfl) (W := 0) rfl (by decide) (by decide) (by decide) (by decide) (hb hby at_161) rfl rfl fun T77 L77 X77 M77 e77 => ?_
      have N77 := Fr.app N76 M77
      refine Run.x_istore (q := 166) X77 hx #[.val (.int p1), .val (.int p2), .val (.int p3), .val (.int p4), .val (.int p5), .val (.int p6), .val (.int k0), .val (.int k1), .val (.int k2), .val (.ref b1), .val (.int 2), .val (.int 0), z12, .val (.int wd), .val (.ref sb73), .val (.ref b74), .val (.int 1), .val (.int (own_b (k0 = wd)))] (hb hby at_164) rfl rfl ?_
      refine Run.x_iload (q := 168) X77 hx (hb hby at_166) rfl rfl ?_
      refine Run.x_iload (q := 170) X77 hx (hb hby at_168) rfl rfl ?_
      refine Run.x_icmpNo (q := 173) X77 hx (hb hby at_170) (teq (own_b1 hc141)).2 rfl ?_
      refine Run.x_aload (q := 175) X77 hx (hb hby at_173) rfl rfl rfl ?_
      refine Run.z_getF (q := 178) X77 hx hZ e77 hown (wm44 hw) F75_1 (hb hby at_175) rfl fun T78 X78 e78 => ?_
      refine Run.x_iload (q := 180) X78 hx (hb hby at_178) rfl rfl ?_
      refine Run.x_icmpNo (q := 183) X78 hx (hb hby at_180) (teq (by decide : (0 : Int32) = (0 : Int32))).2 rfl ?_
      refine Run.x_aload (q := 185) X78 hx (hb hby at_183) rfl rfl rfl ?_
      refine Run.z_getF (q := 188) X78 hx hZ e78 hown (wm84 hw) F75_0 (hb hby at_185) rfl fun T79 X79 e79 => ?_
      refine Run.x_aload (q := 190) X79 hx (hb hby at_188) rfl rfl rfl ?_
      refine Run.st (B := T79.setTop (mkF m 193 #[.val (.int p1), .val (.int p2), .val (.int p3), .val (.int p4), .val (.int p5), .val (.int p6), .val (.int k0), .val (.int k1), .val (.int k2), .val (.ref b1), .val (.int 2), .val (.int 0), z12, .val (.int wd), .val (.ref sb73), .val (.ref b74), .val (.int 1), .val (.int (own_b (k0 = wd)))] [])) (fun t kt => Jvm.RoadKit.acmp (g := (mkF m 190 #[.val (.int p1), .val (.int p2), .val (.int p3), .val (.int p4), .val (.int p5), .val (.int p6), .val (.int k0), .val (.int k1), .val (.int k2), .val (.ref b1), .val (.int 2), .val (.int 0), z12, .val (.int wd), .val (.ref sb73), .val (.ref b74), .val (.int 1), .val (.int (own_b (k0 = wd)))] [(.ref sb73), (.ref sb73)])) X79 hx rfl rfl rfl (pc0 := 190) (pc' := 193) (same := true) rfl (hb hby at_190) rfl (decide_eq_true rfl) (by decide) (by decide) kt) ?_
      refine Run.x_iconst (q := 194) X79 hx (hb hby at_193) (z := (1 : Int32)) rfl rfl ?_
      refine Run.x_goto (q := 198) X79 hx (hb hby at_194) (by decide) (by decide) ?_
      refine Run.retN X79 hx hlk e79 (t := .boolean) hret (by simp) (z' := (1 : Int32)) (by decide) (hb hby at_198) (by decide) (by decide) ?_
      exact ⟨rfl, N77⟩
     ·skip
      refine Run.x_icmpYes (q := 148) X76 hx (hb hby at_141) (feq hc141).2 (by decide) (by decide) ?_
      refine Run.x_iconst (q := 149) X76 hx (hb hby at_148) (z := (0 : Int32)) rfl rfl ?_
      refine Run.x_istore (q := 151) X76 hx #[.val (.int p1), .val (.int p2), .val (.int p3), .val (.int p4), .val (.int p5), .val (.int p6), .val (.int k0), .val (.int k1), .val (.int k2), .val (.ref b1), .val (.int 2), .val (.int 0), z12, .val (.int wd), .val (.ref sb73), .val (.ref b74), .val (.int 0), .unset] (hb hby at_149) rfl rfl ?_
      refine Run.x_goto (q := 157) X76 hx (hb hby at_151) (by decide) (by decide) ?_
      refine Run.x_aload (q := 159) X76 hx (hb hby at_157) rfl rfl rfl ?_
      refine Run.x_iload (q := 161) X76 hx (hb hby at_159) rfl rfl ?_
      replace E_b74 := E_b74.wr W76
      replace F75_0 := F75_0.other W76 (Or.inr (slot_ne (Or.inr (wm43 hw)) (Or.inl (wm45 hw)) (by decide) (t := (.object "java/lang/String")) (t' := .int) (by decide) (by decide)))
      replace Es73 := ((Es73.ext E74).keep K75).wr W76
      replace Fc73 := ((Fc73.ext E74).keep K75 (ninS ne_sb73_b74 nin0)).other W76 (Or.inl ne_sb73_b74)
      replace Fv73 := ((Fv73.ext E74).keep K75 (ninS ne_sb73_b74 nin0)).other W76 (Or.inl ne_sb73_b74)
      replace Ab73 := ((Ab73.ext E74).keep K75 (ninS ne_bts73_b74 nin0)).other W76 ne_bts73_b74
      replace S_COMPACT_STRINGS := S_COMPACT_STRINGS.wr W76
      replace S_SIOOBE_FORMATTER := S_SIOOBE_FORMATTER.wr W76
      refine Run.callVI (q := 164) X76 hx hZ e76 (y := (⟨"com/example/sayso/sayso/TextCursor", "at", "(C)Z"⟩ : MethodName)) (z := (⟨"com/example/sayso/sayso/TextCursor", "at", "(C)Z"⟩ : MethodName)) hown (wm46 hw) (wm47 hw) (notFace_of_selects (args := #[]) (mvT hZ (wm49 hw))) (wm49 hw) (wm48 hw) (wm37 hw) (wm50 hw) (by decide) (a := b74) E_b74 (argsL := [(.int wd)]) (rest := []) (c_atl0 l Z a0 hw b74 wd h76 n0 Z76 (0 : Int32) (2 : Int32) sb73 cp bts73 [(.int k0.toInt8.toInt32), (.int k1.toInt8.toInt32)] (2 : Int32) sf 0 k0.toInt8.toInt32 k0 E_b74 F75_1 F75_0 Es73 Fc73 Fv73 Ab73 S_COMPACT_STRINGS S_SIOOBE_FORMATTER hcp (by decide) (by decide) hsf rfl (by decide) rfl (by decide) (by decide) (own_lat rk0 ha0) (own_nr rk0)) pd_19 rfl (by rw [hml]; rfl) (W := 0) rfl (by decide) (by decide) (by decide) (by decide) (hb hby at_161) rfl rfl fun T80 L80 X80 M80 e80 => ?_
      have N80 := Fr.app N76 M80
      refine Run.x_istore (q := 166) X80 hx #[.val (.int p1), .val (.int p2), .val (.int p3), .val (.int p4), .val (.int p5), .val (.int p6), .val (.int k0), .val (.int k1), .val (.int k2), .val (.ref b1), .val (.int 2), .val (.int 0), z12, .val (.int wd), .val (.ref sb73), .val (.ref b74), .val (.int 0), .val (.int (own_b (k0 = wd)))] (hb hby at_164) rfl rfl ?_
      refine Run.x_iload (q := 168) X80 hx (hb hby at_166) rfl rfl ?_
      refine Run.x_iload (q := 170) X80 hx (hb hby at_168) rfl rfl ?_
      refine Run.x_icmpNo (q := 173) X80 hx (hb hby at_170) (teq (own_b0 hc141)).2 rfl ?_
      refine Run.x_aload (q := 175) X80 hx (hb hby at_173) rfl rfl rfl ?_
      refine Run.z_getF (q := 178) X80 hx hZ e80 hown (wm44 hw) F75_1 (hb hby at_175) rfl fun T81 X81 e81 => ?_
      refine Run.x_iload (q := 180) X81 hx (hb hby at_178) rfl rfl ?_
      refine Run.x_icmpNo (q := 183) X81 hx (hb hby at_180) (teq (by decide : (0 : Int32) = (0 : Int32))).2 rfl ?_
      refine Run.x_aload (q := 185) X81 hx (hb hby at_183) rfl rfl rfl ?_
      refine Run.z_getF (q := 188) X81 hx hZ e81 hown (wm84 hw) F75_0 (hb hby at_185) rfl fun T82 X82 e82 => ?_
      refine Run.x_aload (q := 190) X82 hx (hb hby at_188) rfl rfl rfl ?_
      refine Run.st (B := T82.setTop (mkF m 193 #[.val (.int p1), .val (.int p2), .val (.int p3), .val (.int p4), .val (.int p5), .val (.int p6), .val (.int k0), .val (.int k1), .val (.int k2), .val (.ref b1), .val (.int 2), .val (.int 0), z12, .val (.int wd), .val (.ref sb73), .val (.ref b74), .val (.int 0), .val (.int (own_b (k0 = wd)))] [])) (fun t kt => Jvm.RoadKit.acmp (g := (mkF m 190 #[.val (.int p1), .val (.int p2), .val (.int p3), .val (.int p4), .val (.int p5), .val (.int p6), .val (.int k0), .val (.int k1), .val (.int k2), .val (.ref b1), .val (.int 2), .val (.int 0), z12, .val (.int wd), .val (.ref sb73), .val (.ref b74), .val (.int 0), .val (.int (own_b (k0 = wd)))] [(.ref sb73), (.ref sb73)])) X82 hx rfl rfl rfl (pc0 := 190) (pc' := 193) (same := true) rfl (hb hby at_190) rfl (decide_eq_true rfl) (by decide) (by decide) kt) ?_
      refine Run.x_iconst (q := 194) X82 hx (hb hby at_193) (z := (1 : Int32)) rfl rfl ?_
      refine Run.x_goto (q := 198) X82 hx (hb hby at_194) (by decide) (by decide) ?_
      refine Run.retN X82 hx hlk e82 (t := .boolean) hret (by simp) (z' := (1 : Int32)) (by decide) (hb hby at_198) (by decide) (by decide) ?_
      exact ⟨rfl, N80⟩
    ·skip
     show Run p e below s _ _ _ (T4.setTop (mkF m 96 #[.val (.int p1), .val (.int p2), .val (.int p3), .val (.int p4), .val (.int p5), .val (.int p6), .val (.int k0), .val (.int k1), .val (.int k2), .val (.ref b1), .val (.int 2), .val (.int 1), z12, .val (.int wd), .unset, .unset, .unset, .unset] []))
     refine Run.x_iload (q := 98) X4 hx (hb hby at_96) rfl rfl ?_
     refine Run.x_iload (q := 100) X4 hx (hb hby at_98) rfl rfl ?_
     refine Run.x_iload (q := 102) X4 hx (hb hby at_100) rfl rfl ?_
     refine Run.x_iload (q := 104) X4 hx (hb hby at_102) rfl rfl ?_
     replace S_COMPACT_STRINGS := (((S_COMPACT_STRINGS.ext E1).wr W2).wr W3).wr W4
     refine Run.callS X4 hx hZ e4 (y := (⟨"com/example/sayso/sayso/TextCursorAtPinLaw", "make", "(ICCC)Ljava/lang/String;"⟩ : MethodName)) hown (wm2 hw) (wm3 hw) (wm4 hw) (wm5 hw) (by decide) (argsL := [(.int 2), (.int k0), (.int k1), (.int k2)]) (rest := []) (c_mk_2_0 l Z a0 hw k0 k1 k2 h4 n0 Z4 cp S_COMPACT_STRINGS hcp ha0 ha1 rk0 rk1 rk2) pd_17 rfl (by rw [hml]; rfl) (W := 0) rfl (by decide) (by decide) (by decide) (by decide) (hb hby at_104) rfl ?_
     intro T83 v83 L83 X83 q83
     obtain ⟨sb83, bts83, rfl, M83, K83, sz83, Es83, Fv83, Fc83, Ab83⟩ := q83
     have N83 := Fr.app N4 M83
     show Run p e below s _ _ _ (T83.setTop (mkF m 107 #[.val (.int p1), .val (.int p2), .val (.int p3), .val (.int p4), .val (.int p5), .val (.int p6), .val (.int k0), .val (.int k1), .val (.int k2), .val (.ref b1), .val (.int 2), .val (.int 1), z12, .val (.int wd), .unset, .unset, .unset, .unset] [(.ref sb83)]))
     have ne_b1_sb83 : b1 ≠ sb83 := Nat.ne_of_lt (Nat.lt_of_lt_of_le A_b1.lt sz83)
     replace S_COMPACT_STRINGS := Sta_keep S_COMPACT_STRINGS K83 all0
     replace S_SIOOBE_FORMATTER := (((S_SIOOBE_FORMATTER.ext E1).wr W2).wr W3).wr W4
     replace S_SIOOBE_FORMATTER := Sta_keep S_SIOOBE_FORMATTER K83 all0
     replace S__assertionsDisabled := (((S__assertionsDisabled.ext E1).wr W2).wr W3).wr W4
     replace S__assertionsDisabled := Sta_keep S__assertionsDisabled K83 all0
     replace S_HI_BYTE_SHIFT := (((S_HI_BYTE_SHIFT.ext E1).wr W2).wr W3).wr W4
     replace S_HI_BYTE_SHIFT := Sta_keep S_HI_BYTE_SHIFT K83 all0
     replace S_LO_BYTE_SHIFT := (((S_LO_BYTE_SHIFT.ext E1).wr W2).wr W3).wr W4
     replace S_LO_BYTE_SHIFT := Sta_keep S_LO_BYTE_SHIFT K83 all0
     have Z83 : n0 ≤ T83.heap.size := Nat.le_trans Z4 K83.1
     replace KP := KP.trans K83 all0
     refine Run.x_astore (q := 109) X83 hx #[.val (.int p1), .val (.int p2), .val (.int p3), .val (.int p4), .val (.int p5), .val (.int p6), .val (.int k0), .val (.int k1), .val (.int k2), .val (.ref b1), .val (.int 2), .val (.int 1), z12, .val (.int wd), .val (.ref sb83), .unset, .unset, .unset] (hb hby at_107) rfl rfl rfl ?_
     obtain ⟨T84, h84, X84, e84, E84, A84, D84, -, st84⟩ := newO X83 hx hZ hown (wm35 hw) (wm36 hw) (wm37 hw) rfl (g := (mkF m 109 #[.val (.int p1), .val (.int p2), .val (.int p3), .val (.int p4), .val (.int p5), .val (.int p6), .val (.int k0), .val (.int k1), .val (.int k2), .val (.ref b1), .val (.int 2), .val (.int 1), z12, .val (.int wd), .val (.ref sb83), .unset, .unset, .unset] [])) rfl (hb hby at_109) (by decide) (by decide)
     obtain ⟨b84, gg84⟩ : ∃ z, z = T83.heap.size := ⟨_, rfl⟩
     rw [← gg84] at A84 D84 st84
     have g_b84 : n0 ≤ b84 := Nat.le_trans Z83 (Nat.le_of_eq gg84.symm)
     replace A_b1 := A_b1.keep K83 nin0
     have ne_b1_b84 : b1 ≠ b84 := Nat.ne_of_lt (Nat.lt_of_lt_of_le A_b1.lt (Nat.le_of_eq gg84.symm))
     have ne_sb83_b84 : sb83 ≠ b84 := Nat.ne_of_lt (Nat.lt_of_lt_of_le Es83.lt (Nat.le_of_eq gg84.symm))
     have ne_bts83_b84 : bts83 ≠ b84 := Nat.ne_of_lt (Nat.lt_of_lt_of_le Ab83.lt (Nat.le_of_eq gg84.symm))
     have sz_b84 : h0.size ≤ b84 := Nat.le_trans KP.1 (Nat.le_of_eq gg84.symm)
     have Z84 : n0 ≤ h84.size := Nat.le_trans Z83 E84.1
     replace KP := KP.ext E84
     have E_b84 := A84
     have F_b84_text : Fld Z h84 b84 "com/example/sayso/sayso/TextCursor" "text" "Ljava/lang/String;" .null := D84 (Or.inr (wm43 hw)) (ty := (.object "java/lang/String")) (by decide)
     have F_b84_position : Fld Z h84 b84 "com/example/sayso/sayso/TextCursor" "position" "I" (.int 0) := D84 (Or.inl (wm45 hw)) (ty := .int) (by decide)
     refine Run.st st84 ?_
     show Run p e below s _ _ _ (T84.setTop (mkF m 112 #[.val (.int p1), .val (.int p2), .val (.int p3), .val (.int p4), .val (.int p5), .val (.int p6), .val (.int k0), .val (.int k1), .val (.int k2), .val (.ref b1), .val (.int 2), .val (.int 1), z12, .val (.int wd), .val (.ref sb83), .unset, .unset, .unset] [(.ref b84)]))
     refine Run.x_dup (q := 113) X84 hx (hb hby at_112) rfl rfl ?_
     refine Run.x_aload (q := 115) X84 hx (hb hby at_113) rfl rfl rfl ?_
     refine Run.callC X84 hx hZ e84 (y := (⟨"com/example/sayso/sayso/TextCursor", "<init>", "(Ljava/lang/String;)V"⟩ : MethodName)) hown rfl (wm38 hw) (wm39 hw) (wm37 hw) (wm40 hw) (by decide) (a := b84) (argsL := [(.ref sb83)]) (rest := [(.ref b84)]) (c_tci l Z a0 hw b84 sb83 h84 n0 Z84 E_b84 F_b84_text F_b84_position g_b84) pd_18 rfl (by rw [hml]; rfl) (W := 1) rfl (by decide) (by decide) (by decide) (by decide) (hb hby at_115) rfl ?_
     intro T85 v85 L85 X85 q85
     obtain ⟨rfl, M85, K85, E85, F85_0, F85_1⟩ := q85
     have N85 := Fr.app N83 M85
     show Run p e below s _ _ _ (T85.setTop (mkF m 118 #[.val (.int p1), .val (.int p2), .val (.int p3), .val (.int p4), .val (.int p5), .val (.int p6), .val (.int k0), .val (.int k1), .val (.int k2), .val (.ref b1), .val (.int 2), .val (.int 1), z12, .val (.int wd), .val (.ref sb83), .unset, .unset, .unset] [(.ref b84)]))
     replace S_COMPACT_STRINGS := S_COMPACT_STRINGS.ext E84
     replace S_COMPACT_STRINGS := Sta_keep S_COMPACT_STRINGS K85 (allS (Exa_ns E_b84) all0)
     replace S_SIOOBE_FORMATTER := S_SIOOBE_FORMATTER.ext E84
     replace S_SIOOBE_FORMATTER := Sta_keep S_SIOOBE_FORMATTER K85 (allS (Exa_ns E_b84) all0)
     replace S__assertionsDisabled := S__assertionsDisabled.ext E84
     replace S__assertionsDisabled := Sta_keep S__assertionsDisabled K85 (allS (Exa_ns E_b84) all0)
     replace S_HI_BYTE_SHIFT := S_HI_BYTE_SHIFT.ext E84
     replace S_HI_BYTE_SHIFT := Sta_keep S_HI_BYTE_SHIFT K85 (allS (Exa_ns E_b84) all0)
     replace S_LO_BYTE_SHIFT := S_LO_BYTE_SHIFT.ext E84
     replace S_LO_BYTE_SHIFT := Sta_keep S_LO_BYTE_SHIFT K85 (allS (Exa_ns E_b84) all0)
     have Z85 : n0 ≤ T85.heap.size := Nat.le_trans Z84 K85.1
     replace KP := KP.trans K85 (allS (Or.inr sz_b84) all0)
     refine Run.x_astore (q := 120) X85 hx #[.val (.int p1), .val (.int p2), .val (.int p3), .val (.int p4), .val (.int p5), .val (.int p6), .val (.int k0), .val (.int k1), .val (.int k2), .val (.ref b1), .val (.int 2), .val (.int 1), z12, .val (.int wd), .val (.ref sb83), .val (.ref b84), .unset, .unset] (hb hby at_118) rfl rfl rfl ?_
     refine Run.x_aload (q := 122) X85 hx (hb hby at_120) rfl rfl rfl ?_
     refine Run.x_iload (q := 124) X85 hx (hb hby at_122) rfl rfl ?_
     replace E_b84 := E_b84.keep K85
     obtain ⟨T86, h86, X86, e86, W86, st86⟩ := putF X85 hx hZ hown (host := "") (Or.inl (wm44 hw)) Via.refl rfl F85_1 E_b84 (Or.inl (wm45 hw)) (wm36 hw) (ty := .int) (by decide) rfl rfl (g := (mkF m 124 #[.val (.int p1), .val (.int p2), .val (.int p3), .val (.int p4), .val (.int p5), .val (.int p6), .val (.int k0), .val (.int k1), .val (.int k2), .val (.ref b1), .val (.int 2), .val (.int 1), z12, .val (.int wd), .val (.ref sb83), .val (.ref b84), .unset, .unset] [(.int 1), (.ref b84)])) rfl rfl (hb hby at_124)
     replace F85_1 := F85_1.same W86
     have Z86 : n0 ≤ h86.size := Nat.le_trans Z85 (Nat.le_of_eq W86.size.symm)
     replace KP := KP.wr W86 (Or.inr sz_b84)
     have N86 := Fr.snoc X86 N85 g_b84
     refine Run.st st86 ?_
     show Run p e below s _ _ _ (T86.setTop (mkF m 127 #[.val (.int p1), .val (.int p2), .val (.int p3), .val (.int p4), .val (.int p5), .val (.int p6), .val (.int k0), .val (.int k1), .val (.int k2), .val (.ref b1), .val (.int 2), .val (.int 1), z12, .val (.int wd), .val (.ref sb83), .val (.ref b84), .unset, .unset] []))
     refine Run.x_iload (q := 129) X86 hx (hb hby at_127) rfl rfl ?_
     refine Run.x_iload (q := 131) X86 hx (hb hby at_129) rfl rfl ?_
     refine Run.x_icmpNo (q := 134) X86 hx (hb hby at_131) (tlt (by decide : (1 : Int32) < (2 : Int32))).2.1 rfl ?_
     refine Run.x_aload (q := 136) X86 hx (hb hby at_134) rfl rfl rfl ?_
     refine Run.x_iload (q := 138) X86 hx (hb hby at_136) rfl rfl ?_
     replace A_b1 := ((A_b1.ext E84).keep K85 (ninS ne_b1_b84 nin0)).other W86 ne_b1_b84
     refine Run.y_ldC (q := 139) X86 hx hZ e86 A_b1 (i := 1) (v := (.int k1)) (by decide) rfl (hb hby at_138) rfl ?_
     refine Run.x_iload (q := 141) X86 hx (hb hby at_139) rfl rfl ?_
     by_cases hc141 : k1 = wd
     ·skip
      refine Run.x_icmpNo (q := 144) X86 hx (hb hby at_141) (teq hc141).2 rfl ?_
      refine Run.x_iconst (q := 145) X86 hx (hb hby at_144) (z := (1 : Int32)) rfl rfl ?_
      refine Run.x_goto (q := 149) X86 hx (hb hby at_145) (by decide) (by decide) ?_
      refine Run.x_istore (q := 151) X86 hx #[.val (.int p1), .val (.int p2), .val (.int p3), .val (.int p4), .val (.int p5), .val (.int p6), .val (.int k0), .val (.int k1), .val (.int k2), .val (.ref b1), .val (.int 2), .val (.int 1), z12, .val (.int wd), .val (.ref sb83), .val (.ref b84), .val (.int 1), .unset] (hb hby at_149) rfl rfl ?_
      refine Run.x_goto (q := 157) X86 hx (hb hby at_151) (by decide) (by decide) ?_
      refine Run.x_aload (q := 159) X86 hx (hb hby at_157) rfl rfl rfl ?_
      refine Run.x_iload (q := 161) X86 hx (hb hby at_159) rfl rfl ?_
      replace E_b84 := E_b84.wr W86
      replace F85_0 := F85_0.other W86 (Or.inr (slot_ne (Or.inr (wm43 hw)) (Or.inl (wm45 hw)) (by decide) (t := (.object "java/lang/String")) (t' := .int) (by decide) (by decide)))
      replace Es83 := ((Es83.ext E84).keep K85).wr W86
      replace Fc83 := ((Fc83.ext E84).keep K85 (ninS ne_sb83_b84 nin0)).other W86 (Or.inl ne_sb83_b84)
      replace Fv83 := ((Fv83.ext E84).keep K85 (ninS ne_sb83_b84 nin0)).other W86 (Or.inl ne_sb83_b84)
      replace Ab83 := ((Ab83.ext E84).keep K85 (ninS ne_bts83_b84 nin0)).other W86 ne_bts83_b84
      replace S_COMPACT_STRINGS := S_COMPACT_STRINGS.wr W86
      replace S_SIOOBE_FORMATTER := S_SIOOBE_FORMATTER.wr W86
      refine Run.callVI (q := 164) X86 hx hZ e86 (y := (⟨"com/example/sayso/sayso/TextCursor", "at", "(C)Z"⟩ : MethodName)) (z := (⟨"com/example/sayso/sayso/TextCursor", "at", "(C)Z"⟩ : MethodName)) hown (wm46 hw) (wm47 hw) (notFace_of_selects (args := #[]) (mvT hZ (wm49 hw))) (wm49 hw) (wm48 hw) (wm37 hw) (wm50 hw) (by decide) (a := b84) E_b84 (argsL := [(.int wd)]) (rest := []) (c_atl0 l Z a0 hw b84 wd h86 n0 Z86 (1 : Int32) (2 : Int32) sb83 cp bts83 [(.int k0.toInt8.toInt32), (.int k1.toInt8.toInt32)] (2 : Int32) sf 1 k1.toInt8.toInt32 k1 E_b84 F85_1 F85_0 Es83 Fc83 Fv83 Ab83 S_COMPACT_STRINGS S_SIOOBE_FORMATTER hcp (by decide) (by decide) hsf rfl (by decide) rfl (by decide) (by decide) (own_lat rk1 ha1) (own_nr rk1)) pd_19 rfl (by rw [hml]; rfl) (W := 0) rfl (by decide) (by decide) (by decide) (by decide) (hb hby at_161) rfl rfl fun T87 L87 X87 M87 e87 => ?_
      have N87 := Fr.app N86 M87
      refine Run.x_istore (q := 166) X87 hx #[.val (.int p1), .val (.int p2), .val (.int p3), .val (.int p4), .val (.int p5), .val (.int p6), .val (.int k0), .val (.int k1), .val (.int k2), .val (.ref b1), .val (.int 2), .val (.int 1), z12, .val (.int wd), .val (.ref sb83), .val (.ref b84), .val (.int 1), .val (.int (own_b (k1 = wd)))] (hb hby at_164) rfl rfl ?_
      refine Run.x_iload (q := 168) X87 hx (hb hby at_166) rfl rfl ?_
      refine Run.x_iload (q := 170) X87 hx (hb hby at_168) rfl rfl ?_
      refine Run.x_icmpNo (q := 173) X87 hx (hb hby at_170) (teq (own_b1 hc141)).2 rfl ?_
      refine Run.x_aload (q := 175) X87 hx (hb hby at_173) rfl rfl rfl ?_
      refine Run.z_getF (q := 178) X87 hx hZ e87 hown (wm44 hw) F85_1 (hb hby at_175) rfl fun T88 X88 e88 => ?_
      refine Run.x_iload (q := 180) X88 hx (hb hby at_178) rfl rfl ?_
      refine Run.x_icmpNo (q := 183) X88 hx (hb hby at_180) (teq (by decide : (1 : Int32) = (1 : Int32))).2 rfl ?_
      refine Run.x_aload (q := 185) X88 hx (hb hby at_183) rfl rfl rfl ?_
      refine Run.z_getF (q := 188) X88 hx hZ e88 hown (wm84 hw) F85_0 (hb hby at_185) rfl fun T89 X89 e89 => ?_
      refine Run.x_aload (q := 190) X89 hx (hb hby at_188) rfl rfl rfl ?_
      refine Run.st (B := T89.setTop (mkF m 193 #[.val (.int p1), .val (.int p2), .val (.int p3), .val (.int p4), .val (.int p5), .val (.int p6), .val (.int k0), .val (.int k1), .val (.int k2), .val (.ref b1), .val (.int 2), .val (.int 1), z12, .val (.int wd), .val (.ref sb83), .val (.ref b84), .val (.int 1), .val (.int (own_b (k1 = wd)))] [])) (fun t kt => Jvm.RoadKit.acmp (g := (mkF m 190 #[.val (.int p1), .val (.int p2), .val (.int p3), .val (.int p4), .val (.int p5), .val (.int p6), .val (.int k0), .val (.int k1), .val (.int k2), .val (.ref b1), .val (.int 2), .val (.int 1), z12, .val (.int wd), .val (.ref sb83), .val (.ref b84), .val (.int 1), .val (.int (own_b (k1 = wd)))] [(.ref sb83), (.ref sb83)])) X89 hx rfl rfl rfl (pc0 := 190) (pc' := 193) (same := true) rfl (hb hby at_190) rfl (decide_eq_true rfl) (by decide) (by decide) kt) ?_
      refine Run.x_iconst (q := 194) X89 hx (hb hby at_193) (z := (1 : Int32)) rfl rfl ?_
      refine Run.x_goto (q := 198) X89 hx (hb hby at_194) (by decide) (by decide) ?_
      refine Run.retN X89 hx hlk e89 (t := .boolean) hret (by simp) (z' := (1 : Int32)) (by decide) (hb hby at_198) (by decide) (by decide) ?_
      exact ⟨rfl, N87⟩
     ·skip
      refine Run.x_icmpYes (q := 148) X86 hx (hb hby at_141) (feq hc141).2 (by decide) (by decide) ?_
      refine Run.x_iconst (q := 149) X86 hx (hb hby at_148) (z := (0 : Int32)) rfl rfl ?_
      refine Run.x_istore (q := 151) X86 hx #[.val (.int p1), .val (.int p2), .val (.int p3), .val (.int p4), .val (.int p5), .val (.int p6), .val (.int k0), .val (.int k1), .val (.int k2), .val (.ref b1), .val (.int 2), .val (.int 1), z12, .val (.int wd), .val (.ref sb83), .val (.ref b84), .val (.int 0), .unset] (hb hby at_149) rfl rfl ?_
      refine Run.x_goto (q := 157) X86 hx (hb hby at_151) (by decide) (by decide) ?_
      refine Run.x_aload (q := 159) X86 hx (hb hby at_157) rfl rfl rfl ?_
      refine Run.x_iload (q := 161) X86 hx (hb hby at_159) rfl rfl ?_
      replace E_b84 := E_b84.wr W86
      replace F85_0 := F85_0.other W86 (Or.inr (slot_ne (Or.inr (wm43 hw)) (Or.inl (wm45 hw)) (by decide) (t := (.object "java/lang/String")) (t' := .int) (by decide) (by decide)))
      replace Es83 := ((Es83.ext E84).keep K85).wr W86
      replace Fc83 := ((Fc83.ext E84).keep K85 (ninS ne_sb83_b84 nin0)).other W86 (Or.inl ne_sb83_b84)
      replace Fv83 := ((Fv83.ext E84).keep K85 (ninS ne_sb83_b84 nin0)).other W86 (Or.inl ne_sb83_b84)
      replace Ab83 := ((Ab83.ext E84).keep K85 (ninS ne_bts83_b84 nin0)).other W86 ne_bts83_b84
      replace S_COMPACT_STRINGS := S_COMPACT_STRINGS.wr W86
      replace S_SIOOBE_FORMATTER := S_SIOOBE_FORMATTER.wr W86
      refine Run.callVI (q := 164) X86 hx hZ e86 (y := (⟨"com/example/sayso/sayso/TextCursor", "at", "(C)Z"⟩ : MethodName)) (z := (⟨"com/example/sayso/sayso/TextCursor", "at", "(C)Z"⟩ : MethodName)) hown (wm46 hw) (wm47 hw) (notFace_of_selects (args := #[]) (mvT hZ (wm49 hw))) (wm49 hw) (wm48 hw) (wm37 hw) (wm50 hw) (by decide) (a := b84) E_b84 (argsL := [(.int wd)]) (rest := []) (c_atl0 l Z a0 hw b84 wd h86 n0 Z86 (1 : Int32) (2 : Int32) sb83 cp bts83 [(.int k0.toInt8.toInt32), (.int k1.toInt8.toInt32)] (2 : Int32) sf 1 k1.toInt8.toInt32 k1 E_b84 F85_1 F85_0 Es83 Fc83 Fv83 Ab83 S_COMPACT_STRINGS S_SIOOBE_FORMATTER hcp (by decide) (by decide) hsf rfl (by decide) rfl (by decide) (by decide) (own_lat rk1 ha1) (own_nr rk1)) pd_19 rfl (by rw [hml]; rfl) (W := 0) rfl (by decide) (by decide) (by decide) (by decide) (hb hby at_161) rfl rfl fun T90 L90 X90 M90 e90 => ?_
      have N90 := Fr.app N86 M90
      refine Run.x_istore (q := 166) X90 hx #[.val (.int p1), .val (.int p2), .val (.int p3), .val (.int p4), .val (.int p5), .val (.int p6), .val (.int k0), .val (.int k1), .val (.int k2), .val (.ref b1), .val (.int 2), .val (.int 1), z12, .val (.int wd), .val (.ref sb83), .val (.ref b84), .val (.int 0), .val (.int (own_b (k1 = wd)))] (hb hby at_164) rfl rfl ?_
      refine Run.x_iload (q := 168) X90 hx (hb hby at_166) rfl rfl ?_
      refine Run.x_iload (q := 170) X90 hx (hb hby at_168) rfl rfl ?_
      refine Run.x_icmpNo (q := 173) X90 hx (hb hby at_170) (teq (own_b0 hc141)).2 rfl ?_
      refine Run.x_aload (q := 175) X90 hx (hb hby at_173) rfl rfl rfl ?_
      refine Run.z_getF (q := 178) X90 hx hZ e90 hown (wm44 hw) F85_1 (hb hby at_175) rfl fun T91 X91 e91 => ?_
      refine Run.x_iload (q := 180) X91 hx (hb hby at_178) rfl rfl ?_
      refine Run.x_icmpNo (q := 183) X91 hx (hb hby at_180) (teq (by decide : (1 : Int32) = (1 : Int32))).2 rfl ?_
      refine Run.x_aload (q := 185) X91 hx (hb hby at_183) rfl rfl rfl ?_
      refine Run.z_getF (q := 188) X91 hx hZ e91 hown (wm84 hw) F85_0 (hb hby at_185) rfl fun T92 X92 e92 => ?_
      refine Run.x_aload (q := 190) X92 hx (hb hby at_188) rfl rfl rfl ?_
      refine Run.st (B := T92.setTop (mkF m 193 #[.val (.int p1), .val (.int p2), .val (.int p3), .val (.int p4), .val (.int p5), .val (.int p6), .val (.int k0), .val (.int k1), .val (.int k2), .val (.ref b1), .val (.int 2), .val (.int 1), z12, .val (.int wd), .val (.ref sb83), .val (.ref b84), .val (.int 0), .val (.int (own_b (k1 = wd)))] [])) (fun t kt => Jvm.RoadKit.acmp (g := (mkF m 190 #[.val (.int p1), .val (.int p2), .val (.int p3), .val (.int p4), .val (.int p5), .val (.int p6), .val (.int k0), .val (.int k1), .val (.int k2), .val (.ref b1), .val (.int 2), .val (.int 1), z12, .val (.int wd), .val (.ref sb83), .val (.ref b84), .val (.int 0), .val (.int (own_b (k1 = wd)))] [(.ref sb83), (.ref sb83)])) X92 hx rfl rfl rfl (pc0 := 190) (pc' := 193) (same := true) rfl (hb hby at_190) rfl (decide_eq_true rfl) (by decide) (by decide) kt) ?_
      refine Run.x_iconst (q := 194) X92 hx (hb hby at_193) (z := (1 : Int32)) rfl rfl ?_
      refine Run.x_goto (q := 198) X92 hx (hb hby at_194) (by decide) (by decide) ?_
      refine Run.retN X92 hx hlk e92 (t := .boolean) hret (by simp) (z' := (1 : Int32)) (by decide) (hb hby at_198) (by decide) (by decide) ?_
      exact ⟨rfl, N90⟩
    ·skip
     show Run p e below s _ _ _ (T4.setTop (mkF m 96 #[.val (.int p1), .val (.int p2), .val (.int p3), .val (.int p4), .val (.int p5), .val (.int p6), .val (.int k0), .val (.int k1), .val (.int k2), .val (.ref b1), .val (.int 2), .val (.int 2), z12, .val (.int wd), .unset, .unset, .unset, .unset] []))
     refine Run.x_iload (q := 98) X4 hx (hb hby at_96) rfl rfl ?_
     refine Run.x_iload (q := 100) X4 hx (hb hby at_98) rfl rfl ?_
     refine Run.x_iload (q := 102) X4 hx (hb hby at_100) rfl rfl ?_
     refine Run.x_iload (q := 104) X4 hx (hb hby at_102) rfl rfl ?_
     replace S_COMPACT_STRINGS := (((S_COMPACT_STRINGS.ext E1).wr W2).wr W3).wr W4
     refine Run.callS X4 hx hZ e4 (y := (⟨"com/example/sayso/sayso/TextCursorAtPinLaw", "make", "(ICCC)Ljava/lang/String;"⟩ : MethodName)) hown (wm2 hw) (wm3 hw) (wm4 hw) (wm5 hw) (by decide) (argsL := [(.int 2), (.int k0), (.int k1), (.int k2)]) (rest := []) (c_mk_2_0 l Z a0 hw k0 k1 k2 h4 n0 Z4 cp S_COMPACT_STRINGS hcp ha0 ha1 rk0 rk1 rk2) pd_17 rfl (by rw [hml]; rfl) (W := 0) rfl (by decide) (by decide) (by decide) (by decide) (hb hby at_104) rfl ?_
     intro T93 v93 L93 X93 q93
     obtain ⟨sb93, bts93, rfl, M93, K93, sz93, Es93, Fv93, Fc93, Ab93⟩ := q93
     have N93 := Fr.app N4 M93
     show Run p e below s _ _ _ (T93.setTop (mkF m 107 #[.val (.int p1), .val (.int p2), .val (.int p3), .val (.int p4), .val (.int p5), .val (.int p6), .val (.int k0), .val (.int k1), .val (.int k2), .val (.ref b1), .val (.int 2), .val (.int 2), z12, .val (.int wd), .unset, .unset, .unset, .unset] [(.ref sb93)]))
     have ne_b1_sb93 : b1 ≠ sb93 := Nat.ne_of_lt (Nat.lt_of_lt_of_le A_b1.lt sz93)
     replace S_COMPACT_STRINGS := Sta_keep S_COMPACT_STRINGS K93 all0
     replace S_SIOOBE_FORMATTER := (((S_SIOOBE_FORMATTER.ext E1).wr W2).wr W3).wr W4
     replace S_SIOOBE_FORMATTER := Sta_keep S_SIOOBE_FORMATTER K93 all0
     replace S__assertionsDisabled := (((S__assertionsDisabled.ext E1).wr W2).wr W3).wr W4
     replace S__assertionsDisabled := Sta_keep S__assertionsDisabled K93 all0
     replace S_HI_BYTE_SHIFT := (((S_HI_BYTE_SHIFT.ext E1).wr W2).wr W3).wr W4
     replace S_HI_BYTE_SHIFT := Sta_keep S_HI_BYTE_SHIFT K93 all0
     replace S_LO_BYTE_SHIFT := (((S_LO_BYTE_SHIFT.ext E1).wr W2).wr W3).wr W4
     replace S_LO_BYTE_SHIFT := Sta_keep S_LO_BYTE_SHIFT K93 all0
     have Z93 : n0 ≤ T93.heap.size := Nat.le_trans Z4 K93.1
     replace KP := KP.trans K93 all0
     refine Run.x_astore (q := 109) X93 hx #[.val (.int p1), .val (.int p2), .val (.int p3), .val (.int p4), .val (.int p5), .val (.int p6), .val (.int k0), .val (.int k1), .val (.int k2), .val (.ref b1), .val (.int 2), .val (.int 2), z12, .val (.int wd), .val (.ref sb93), .unset, .unset, .unset] (hb hby at_107) rfl rfl rfl ?_
     obtain ⟨T94, h94, X94, e94, E94, A94, D94, -, st94⟩ := newO X93 hx hZ hown (wm35 hw) (wm36 hw) (wm37 hw) rfl (g := (mkF m 109 #[.val (.int p1), .val (.int p2), .val (.int p3), .val (.int p4), .val (.int p5), .val (.int p6), .val (.int k0), .val (.int k1), .val (.int k2), .val (.ref b1), .val (.int 2), .val (.int 2), z12, .val (.int wd), .val (.ref sb93), .unset, .unset, .unset] [])) rfl (hb hby at_109) (by decide) (by decide)
     obtain ⟨b94, gg94⟩ : ∃ z, z = T93.heap.size := ⟨_, rfl⟩
     rw [← gg94] at A94 D94 st94
     have g_b94 : n0 ≤ b94 := Nat.le_trans Z93 (Nat.le_of_eq gg94.symm)
     replace A_b1 := A_b1.keep K93 nin0
     have ne_b1_b94 : b1 ≠ b94 := Nat.ne_of_lt (Nat.lt_of_lt_of_le A_b1.lt (Nat.le_of_eq gg94.symm))
     have ne_sb93_b94 : sb93 ≠ b94 := Nat.ne_of_lt (Nat.lt_of_lt_of_le Es93.lt (Nat.le_of_eq gg94.symm))
     have ne_bts93_b94 : bts93 ≠ b94 := Nat.ne_of_lt (Nat.lt_of_lt_of_le Ab93.lt (Nat.le_of_eq gg94.symm))
     have sz_b94 : h0.size ≤ b94 := Nat.le_trans KP.1 (Nat.le_of_eq gg94.symm)
     have Z94 : n0 ≤ h94.size := Nat.le_trans Z93 E94.1
     replace KP := KP.ext E94
     have E_b94 := A94
     have F_b94_text : Fld Z h94 b94 "com/example/sayso/sayso/TextCursor" "text" "Ljava/lang/String;" .null := D94 (Or.inr (wm43 hw)) (ty := (.object "java/lang/String")) (by decide)
     have F_b94_position : Fld Z h94 b94 "com/example/sayso/sayso/TextCursor" "position" "I" (.int 0) := D94 (Or.inl (wm45 hw)) (ty := .int) (by decide)
     refine Run.st st94 ?_
     show Run p e below s _ _ _ (T94.setTop (mkF m 112 #[.val (.int p1), .val (.int p2), .val (.int p3), .val (.int p4), .val (.int p5), .val (.int p6), .val (.int k0), .val (.int k1), .val (.int k2), .val (.ref b1), .val (.int 2), .val (.int 2), z12, .val (.int wd), .val (.ref sb93), .unset, .unset, .unset] [(.ref b94)]))
     refine Run.x_dup (q := 113) X94 hx (hb hby at_112) rfl rfl ?_
     refine Run.x_aload (q := 115) X94 hx (hb hby at_113) rfl rfl rfl ?_
     refine Run.callC X94 hx hZ e94 (y := (⟨"com/example/sayso/sayso/TextCursor", "<init>", "(Ljava/lang/String;)V"⟩ : MethodName)) hown rfl (wm38 hw) (wm39 hw) (wm37 hw) (wm40 hw) (by decide) (a := b94) (argsL := [(.ref sb93)]) (rest := [(.ref b94)]) (c_tci l Z a0 hw b94 sb93 h94 n0 Z94 E_b94 F_b94_text F_b94_position g_b94) pd_18 rfl (by rw [hml]; rfl) (W := 1) rfl (by decide) (by decide) (by decide) (by decide) (hb hby at_115) rfl ?_
     intro T95 v95 L95 X95 q95
     obtain ⟨rfl, M95, K95, E95, F95_0, F95_1⟩ := q95
     have N95 := Fr.app N93 M95
     show Run p e below s _ _ _ (T95.setTop (mkF m 118 #[.val (.int p1), .val (.int p2), .val (.int p3), .val (.int p4), .val (.int p5), .val (.int p6), .val (.int k0), .val (.int k1), .val (.int k2), .val (.ref b1), .val (.int 2), .val (.int 2), z12, .val (.int wd), .val (.ref sb93), .unset, .unset, .unset] [(.ref b94)]))
     replace S_COMPACT_STRINGS := S_COMPACT_STRINGS.ext E94
     replace S_COMPACT_STRINGS := Sta_keep S_COMPACT_STRINGS K95 (allS (Exa_ns E_b94) all0)
     replace S_SIOOBE_FORMATTER := S_SIOOBE_FORMATTER.ext E94
     replace S_SIOOBE_FORMATTER := Sta_keep S_SIOOBE_FORMATTER K95 (allS (Exa_ns E_b94) all0)
     replace S__assertionsDisabled := S__assertionsDisabled.ext E94
     replace S__assertionsDisabled := Sta_keep S__assertionsDisabled K95 (allS (Exa_ns E_b94) all0)
     replace S_HI_BYTE_SHIFT := S_HI_BYTE_SHIFT.ext E94
     replace S_HI_BYTE_SHIFT := Sta_keep S_HI_BYTE_SHIFT K95 (allS (Exa_ns E_b94) all0)
     replace S_LO_BYTE_SHIFT := S_LO_BYTE_SHIFT.ext E94
     replace S_LO_BYTE_SHIFT := Sta_keep S_LO_BYTE_SHIFT K95 (allS (Exa_ns E_b94) all0)
     have Z95 : n0 ≤ T95.heap.size := Nat.le_trans Z94 K95.1
     replace KP := KP.trans K95 (allS (Or.inr sz_b94) all0)
     refine Run.x_astore (q := 120) X95 hx #[.val (.int p1), .val (.int p2), .val (.int p3), .val (.int p4), .val (.int p5), .val (.int p6), .val (.int k0), .val (.int k1), .val (.int k2), .val (.ref b1), .val (.int 2), .val (.int 2), z12, .val (.int wd), .val (.ref sb93), .val (.ref b94), .unset, .unset] (hb hby at_118) rfl rfl rfl ?_
     refine Run.x_aload (q := 122) X95 hx (hb hby at_120) rfl rfl rfl ?_
     refine Run.x_iload (q := 124) X95 hx (hb hby at_122) rfl rfl ?_
     replace E_b94 := E_b94.keep K95
     obtain ⟨T96, h96, X96, e96, W96, st96⟩ := putF X95 hx hZ hown (host := "") (Or.inl (wm44 hw)) Via.refl rfl F95_1 E_b94 (Or.inl (wm45 hw)) (wm36 hw) (ty := .int) (by decide) rfl rfl (g := (mkF m 124 #[.val (.int p1), .val (.int p2), .val (.int p3), .val (.int p4), .val (.int p5), .val (.int p6), .val (.int k0), .val (.int k1), .val (.int k2), .val (.ref b1), .val (.int 2), .val (.int 2), z12, .val (.int wd), .val (.ref sb93), .val (.ref b94), .unset, .unset] [(.int 2), (.ref b94)])) rfl rfl (hb hby at_124)
     replace F95_1 := F95_1.same W96
     have Z96 : n0 ≤ h96.size := Nat.le_trans Z95 (Nat.le_of_eq W96.size.symm)
     replace KP := KP.wr W96 (Or.inr sz_b94)
     have N96 := Fr.snoc X96 N95 g_b94
     refine Run.st st96 ?_
     show Run p e below s _ _ _ (T96.setTop (mkF m 127 #[.val (.int p1), .val (.int p2), .val (.int p3), .val (.int p4), .val (.int p5), .val (.int p6), .val (.int k0), .val (.int k1), .val (.int k2), .val (.ref b1), .val (.int 2), .val (.int 2), z12, .val (.int wd), .val (.ref sb93), .val (.ref b94), .unset, .unset] []))
     refine Run.x_iload (q := 129) X96 hx (hb hby at_127) rfl rfl ?_
     refine Run.x_iload (q := 131) X96 hx (hb hby at_129) rfl rfl ?_
     refine Run.x_icmpYes (q := 154) X96 hx (hb hby at_131) (flt (by decide : ¬ ((2 : Int32) < (2 : Int32)))).2.1 (by decide) (by decide) ?_
     refine Run.x_iconst (q := 155) X96 hx (hb hby at_154) (z := (0 : Int32)) rfl rfl ?_
     refine Run.x_istore (q := 157) X96 hx #[.val (.int p1), .val (.int p2), .val (.int p3), .val (.int p4), .val (.int p5), .val (.int p6), .val (.int k0), .val (.int k1), .val (.int k2), .val (.ref b1), .val (.int 2), .val (.int 2), z12, .val (.int wd), .val (.ref sb93), .val (.ref b94), .val (.int 0), .unset] (hb hby at_155) rfl rfl ?_
     refine Run.x_aload (q := 159) X96 hx (hb hby at_157) rfl rfl rfl ?_
     refine Run.x_iload (q := 161) X96 hx (hb hby at_159) rfl rfl ?_
     replace E_b94 := E_b94.wr W96
     replace F95_0 := F95_0.other W96 (Or.inr (slot_ne (Or.inr (wm43 hw)) (Or.inl (wm45 hw)) (by decide) (t := (.object "java/lang/String")) (t' := .int) (by decide) (by decide)))
     replace Es93 := ((Es93.ext E94).keep K95).wr W96
     replace Fc93 := ((Fc93.ext E94).keep K95 (ninS ne_sb93_b94 nin0)).other W96 (Or.inl ne_sb93_b94)
     replace Fv93 := ((Fv93.ext E94).keep K95 (ninS ne_sb93_b94 nin0)).other W96 (Or.inl ne_sb93_b94)
     replace Ab93 := ((Ab93.ext E94).keep K95 (ninS ne_bts93_b94 nin0)).other W96 ne_bts93_b94
     replace S_COMPACT_STRINGS := S_COMPACT_STRINGS.wr W96
     refine Run.callVI (q := 164) X96 hx hZ e96 (y := (⟨"com/example/sayso/sayso/TextCursor", "at", "(C)Z"⟩ : MethodName)) (z := (⟨"com/example/sayso/sayso/TextCursor", "at", "(C)Z"⟩ : MethodName)) hown (wm46 hw) (wm47 hw) (notFace_of_selects (args := #[]) (mvT hZ (wm49 hw))) (wm49 hw) (wm48 hw) (wm37 hw) (wm50 hw) (by decide) (a := b94) E_b94 (argsL := [(.int wd)]) (rest := []) (c_atg0 l Z a0 hw b94 wd h96 n0 Z96 (2 : Int32) (2 : Int32) sb93 cp bts93 [(.int k0.toInt8.toInt32), (.int k1.toInt8.toInt32)] (2 : Int32) E_b94 F95_1 F95_0 Es93 Fc93 Fv93 Ab93 S_COMPACT_STRINGS hcp rfl (by decide) (by decide)) pd_19 rfl (by rw [hml]; rfl) (W := 0) rfl (by decide) (by decide) (by decide) (by decide) (hb hby at_161) rfl rfl fun T97 L97 X97 M97 e97 => ?_
     have N97 := Fr.app N96 M97
     refine Run.x_istore (q := 166) X97 hx #[.val (.int p1), .val (.int p2), .val (.int p3), .val (.int p4), .val (.int p5), .val (.int p6), .val (.int k0), .val (.int k1), .val (.int k2), .val (.ref b1), .val (.int 2), .val (.int 2), z12, .val (.int wd), .val (.ref sb93), .val (.ref b94), .val (.int 0), .val (.int 0)] (hb hby at_164) rfl rfl ?_
     refine Run.x_iload (q := 168) X97 hx (hb hby at_166) rfl rfl ?_
     refine Run.x_iload (q := 170) X97 hx (hb hby at_168) rfl rfl ?_
     refine Run.x_icmpNo (q := 173) X97 hx (hb hby at_170) (teq (by decide : (0 : Int32) = (0 : Int32))).2 rfl ?_
     refine Run.x_aload (q := 175) X97 hx (hb hby at_173) rfl rfl rfl ?_
     refine Run.z_getF (q := 178) X97 hx hZ e97 hown (wm44 hw) F95_1 (hb hby at_175) rfl fun T98 X98 e98 => ?_
     refine Run.x_iload (q := 180) X98 hx (hb hby at_178) rfl rfl ?_
     refine Run.x_icmpNo (q := 183) X98 hx (hb hby at_180) (teq (by decide : (2 : Int32) = (2 : Int32))).2 rfl ?_
     refine Run.x_aload (q := 185) X98 hx (hb hby at_183) rfl rfl rfl ?_
     refine Run.z_getF (q := 188) X98 hx hZ e98 hown (wm84 hw) F95_0 (hb hby at_185) rfl fun T99 X99 e99 => ?_
     refine Run.x_aload (q := 190) X99 hx (hb hby at_188) rfl rfl rfl ?_
     refine Run.st (B := T99.setTop (mkF m 193 #[.val (.int p1), .val (.int p2), .val (.int p3), .val (.int p4), .val (.int p5), .val (.int p6), .val (.int k0), .val (.int k1), .val (.int k2), .val (.ref b1), .val (.int 2), .val (.int 2), z12, .val (.int wd), .val (.ref sb93), .val (.ref b94), .val (.int 0), .val (.int 0)] [])) (fun t kt => Jvm.RoadKit.acmp (g := (mkF m 190 #[.val (.int p1), .val (.int p2), .val (.int p3), .val (.int p4), .val (.int p5), .val (.int p6), .val (.int k0), .val (.int k1), .val (.int k2), .val (.ref b1), .val (.int 2), .val (.int 2), z12, .val (.int wd), .val (.ref sb93), .val (.ref b94), .val (.int 0), .val (.int 0)] [(.ref sb93), (.ref sb93)])) X99 hx rfl rfl rfl (pc0 := 190) (pc' := 193) (same := true) rfl (hb hby at_190) rfl (decide_eq_true rfl) (by decide) (by decide) kt) ?_
     refine Run.x_iconst (q := 194) X99 hx (hb hby at_193) (z := (1 : Int32)) rfl rfl ?_
     refine Run.x_goto (q := 198) X99 hx (hb hby at_194) (by decide) (by decide) ?_
     refine Run.retN X99 hx hlk e99 (t := .boolean) hret (by simp) (z' := (1 : Int32)) (by decide) (hb hby at_198) (by decide) (by decide) ?_
     exact ⟨rfl, N97⟩
  ·skip
   show Run p e below s _ _ _ (T4.setTop (mkF m 96 #[.val (.int p1), .val (.int p2), .val (.int p3), .val (.int p4), .val (.int p5), .val (.int p6), .val (.int k0), .val (.int k1), .val (.int k2), .val (.ref b1), .val (.int 3), .val (.int pp), z12, .val (.int wd), .unset, .unset, .unset, .unset] []))
   by_cases hA : (255 : Int32) < k0 ∨ (255 : Int32) < k1 ∨ (255 : Int32) < k2
   ·skip
    rcases own_s3 hpp with rfl | rfl | rfl | rfl
    ·skip
     show Run p e below s _ _ _ (T4.setTop (mkF m 96 #[.val (.int p1), .val (.int p2), .val (.int p3), .val (.int p4), .val (.int p5), .val (.int p6), .val (.int k0), .val (.int k1), .val (.int k2), .val (.ref b1), .val (.int 3), .val (.int 0), z12, .val (.int wd), .unset, .unset, .unset, .unset] []))
     refine Run.x_iload (q := 98) X4 hx (hb hby at_96) rfl rfl ?_
     refine Run.x_iload (q := 100) X4 hx (hb hby at_98) rfl rfl ?_
     refine Run.x_iload (q := 102) X4 hx (hb hby at_100) rfl rfl ?_
     refine Run.x_iload (q := 104) X4 hx (hb hby at_102) rfl rfl ?_
     replace S_COMPACT_STRINGS := (((S_COMPACT_STRINGS.ext E1).wr W2).wr W3).wr W4
     replace S__assertionsDisabled := (((S__assertionsDisabled.ext E1).wr W2).wr W3).wr W4
     replace S_HI_BYTE_SHIFT := (((S_HI_BYTE_SHIFT.ext E1).wr W2).wr W3).wr W4
     replace S_LO_BYTE_SHIFT := (((S_LO_BYTE_SHIFT.ext E1).wr W2).wr W3).wr W4
     refine Run.callS X4 hx hZ e4 (y := (⟨"com/example/sayso/sayso/TextCursorAtPinLaw", "make", "(ICCC)Ljava/lang/String;"⟩ : MethodName)) hown (wm2 hw) (wm3 hw) (wm4 hw) (wm5 hw) (by decide) (argsL := [(.int 3), (.int k0), (.int k1), (.int k2)]) (rest := []) (c_mk_3_1 l Z a0 hw k0 k1 k2 h4 n0 Z4 cp S_COMPACT_STRINGS S__assertionsDisabled S_HI_BYTE_SHIFT S_LO_BYTE_SHIFT hcp hA rk0 rk1 rk2) pd_17 rfl (by rw [hml]; rfl) (W := 0) rfl (by decide) (by decide) (by decide) (by decide) (hb hby at_104) rfl ?_
     intro T100 v100 L100 X100 q100
     obtain ⟨sb100, bts100, rfl, M100, K100, sz100, Es100, Fv100, Fc100, Ab100⟩ := q100
     have N100 := Fr.app N4 M100
     show Run p e below s _ _ _ (T100.setTop (mkF m 107 #[.val (.int p1), .val (.int p2), .val (.int p3), .val (.int p4), .val (.int p5), .val (.int p6), .val (.int k0), .val (.int k1), .val (.int k2), .val (.ref b1), .val (.int 3), .val (.int 0), z12, .val (.int wd), .unset, .unset, .unset, .unset] [(.ref sb100)]))
     have ne_b1_sb100 : b1 ≠ sb100 := Nat.ne_of_lt (Nat.lt_of_lt_of_le A_b1.lt sz100)
     replace S_COMPACT_STRINGS := Sta_keep S_COMPACT_STRINGS K100 all0
     replace S_SIOOBE_FORMATTER := (((S_SIOOBE_FORMATTER.ext E1).wr W2).wr W3).wr W4
     replace S_SIOOBE_FORMATTER := Sta_keep S_SIOOBE_FORMATTER K100 all0
     replace S__assertionsDisabled := Sta_keep S__assertionsDisabled K100 all0
     replace S_HI_BYTE_SHIFT := Sta_keep S_HI_BYTE_SHIFT K100 all0
     replace S_LO_BYTE_SHIFT := Sta_keep S_LO_BYTE_SHIFT K100 all0
     have Z100 : n0 ≤ T100.heap.size := Nat.le_trans Z4 K100.1
     replace KP := KP.trans K100 all0
     refine Run.x_astore (q := 109) X100 hx #[.val (.int p1), .val (.int p2), .val (.int p3), .val (.int p4), .val (.int p5), .val (.int p6), .val (.int k0), .val (.int k1), .val (.int k2), .val (.ref b1), .val (.int 3), .val (.int 0), z12, .val (.int wd), .val (.ref sb100), .unset, .unset, .unset] (hb hby at_107) rfl rfl rfl ?_
     obtain ⟨T101, h101, X101, e101, E101, A101, D101, -, st101⟩ := newO X100 hx hZ hown (wm35 hw) (wm36 hw) (wm37 hw) rfl (g := (mkF m 109 #[.val (.int p1), .val (.int p2), .val (.int p3), .val (.int p4), .val (.int p5), .val (.int p6), .val (.int k0), .val (.int k1), .val (.int k2), .val (.ref b1), .val (.int 3), .val (.int 0), z12, .val (.int wd), .val (.ref sb100), .unset, .unset, .unset] [])) rfl (hb hby at_109) (by decide) (by decide)
     obtain ⟨b101, gg101⟩ : ∃ z, z = T100.heap.size := ⟨_, rfl⟩
     rw [← gg101] at A101 D101 st101
     have g_b101 : n0 ≤ b101 := Nat.le_trans Z100 (Nat.le_of_eq gg101.symm)
     replace A_b1 := A_b1.keep K100 nin0
     have ne_b1_b101 : b1 ≠ b101 := Nat.ne_of_lt (Nat.lt_of_lt_of_le A_b1.lt (Nat.le_of_eq gg101.symm))
     have ne_sb100_b101 : sb100 ≠ b101 := Nat.ne_of_lt (Nat.lt_of_lt_of_le Es100.lt (Nat.le_of_eq gg101.symm))
     have ne_bts100_b101 : bts100 ≠ b101 := Nat.ne_of_lt (Nat.lt_of_lt_of_le Ab100.lt (Nat.le_of_eq gg101.symm))
     have sz_b101 : h0.size ≤ b101 := Nat.le_trans KP.1 (Nat.le_of_eq gg101.symm)
     have Z101 : n0 ≤ h101.size := Nat.le_trans Z100 E101.1
     replace KP := KP.ext E101
     have E_b101 := A101
     have F_b101_text : Fld Z h101 b101 "com/example/sayso/sayso/TextCursor" "text" "Ljava/lang/String;" .null := D101 (Or.inr (wm43 hw)) (ty := (.object "java/lang/String")) (by decide)
     have F_b101_position : Fld Z h101 b101 "com/example/sayso/sayso/TextCursor" "position" "I" (.int 0) := D101 (Or.inl (wm45 hw)) (ty := .int) (by decide)
     refine Run.st st101 ?_
     show Run p e below s _ _ _ (T101.setTop (mkF m 112 #[.val (.int p1), .val (.int p2), .val (.int p3), .val (.int p4), .val (.int p5), .val (.int p6), .val (.int k0), .val (.int k1), .val (.int k2), .val (.ref b1), .val (.int 3), .val (.int 0), z12, .val (.int wd), .val (.ref sb100), .unset, .unset, .unset] [(.ref b101)]))
     refine Run.x_dup (q := 113) X101 hx (hb hby at_112) rfl rfl ?_
     refine Run.x_aload (q := 115) X101 hx (hb hby at_113) rfl rfl rfl ?_
     refine Run.callC X101 hx hZ e101 (y := (⟨"com/example/sayso/sayso/TextCursor", "<init>", "(Ljava/lang/String;)V"⟩ : MethodName)) hown rfl (wm38 hw) (wm39 hw) (wm37 hw) (wm40 hw) (by decide) (a := b101) (argsL := [(.ref sb100)]) (rest := [(.ref b101)]) (c_tci l Z a0 hw b101 sb100 h101 n0 Z101 E_b101 F_b101_text F_b101_position g_b101) pd_18 rfl (by rw [hml]; rfl) (W := 1) rfl (by decide) (by decide) (by decide) (by decide) (hb hby at_115) rfl ?_
     intro T102 v102 L102 X102 q102
     obtain ⟨rfl, M102, K102, E102, F102_0, F102_1⟩ := q102
     have N102 := Fr.app N100 M102
     show Run p e below s _ _ _ (T102.setTop (mkF m 118 #[.val (.int p1), .val (.int p2), .val (.int p3), .val (.int p4), .val (.int p5), .val (.int p6), .val (.int k0), .val (.int k1), .val (.int k2), .val (.ref b1), .val (.int 3), .val (.int 0), z12, .val (.int wd), .val (.ref sb100), .unset, .unset, .unset] [(.ref b101)]))
     replace S_COMPACT_STRINGS := S_COMPACT_STRINGS.ext E101
     replace S_COMPACT_STRINGS := Sta_keep S_COMPACT_STRINGS K102 (allS (Exa_ns E_b101) all0)
     replace S_SIOOBE_FORMATTER := S_SIOOBE_FORMATTER.ext E101
     replace S_SIOOBE_FORMATTER := Sta_keep S_SIOOBE_FORMATTER K102 (allS (Exa_ns E_b101) all0)
     replace S__assertionsDisabled := S__assertionsDisabled.ext E101
     replace S__assertionsDisabled := Sta_keep S__assertionsDisabled K102 (allS (Exa_ns E_b101) all0)
     replace S_HI_BYTE_SHIFT := S_HI_BYTE_SHIFT.ext E101
     replace S_HI_BYTE_SHIFT := Sta_keep S_HI_BYTE_SHIFT K102 (allS (Exa_ns E_b101) all0)
     replace S_LO_BYTE_SHIFT := S_LO_BYTE_SHIFT.ext E101
     replace S_LO_BYTE_SHIFT := Sta_keep S_LO_BYTE_SHIFT K102 (allS (Exa_ns E_b101) all0)
     have Z102 : n0 ≤ T102.heap.size := Nat.le_trans Z101 K102.1
     replace KP := KP.trans K102 (allS (Or.inr sz_b101) all0)
     refine Run.x_astore (q := 120) X102 hx #[.val (.int p1), .val (.int p2), .val (.int p3), .val (.int p4), .val (.int p5), .val (.int p6), .val (.int k0), .val (.int k1), .val (.int k2), .val (.ref b1), .val (.int 3), .val (.int 0), z12, .val (.int wd), .val (.ref sb100), .val (.ref b101), .unset, .unset] (hb hby at_118) rfl rfl rfl ?_
     refine Run.x_aload (q := 122) X102 hx (hb hby at_120) rfl rfl rfl ?_
     refine Run.x_iload (q := 124) X102 hx (hb hby at_122) rfl rfl ?_
     replace E_b101 := E_b101.keep K102
     obtain ⟨T103, h103, X103, e103, W103, st103⟩ := putF X102 hx hZ hown (host := "") (Or.inl (wm44 hw)) Via.refl rfl F102_1 E_b101 (Or.inl (wm45 hw)) (wm36 hw) (ty := .int) (by decide) rfl rfl (g := (mkF m 124 #[.val (.int p1), .val (.int p2), .val (.int p3), .val (.int p4), .val (.int p5), .val (.int p6), .val (.int k0), .val (.int k1), .val (.int k2), .val (.ref b1), .val (.int 3), .val (.int 0), z12, .val (.int wd), .val (.ref sb100), .val (.ref b101), .unset, .unset] [(.int 0), (.ref b101)])) rfl rfl (hb hby at_124)
     replace F102_1 := F102_1.same W103
     have Z103 : n0 ≤ h103.size := Nat.le_trans Z102 (Nat.le_of_eq W103.size.symm)
     replace KP := KP.wr W103 (Or.inr sz_b101)
     have N103 := Fr.snoc X103 N102 g_b101
     refine Run.st st103 ?_
     show Run p e below s _ _ _ (T103.setTop (mkF m 127 #[.val (.int p1), .val (.int p2), .val (.int p3), .val (.int p4), .val (.int p5), .val (.int p6), .val (.int k0), .val (.int k1), .val (.int k2), .val (.ref b1), .val (.int 3), .val (.int 0), z12, .val (.int wd), .val (.ref sb100), .val (.ref b101), .unset, .unset] []))
     refine Run.x_iload (q := 129) X103 hx (hb hby at_127) rfl rfl ?_
     refine Run.x_iload (q := 131) X103 hx (hb hby at_129) rfl rfl ?_
     refine Run.x_icmpNo (q := 134) X103 hx (hb hby at_131) (tlt (by decide : (0 : Int32) < (3 : Int32))).2.1 rfl ?_
     refine Run.x_aload (q := 136) X103 hx (hb hby at_134) rfl rfl rfl ?_
     refine Run.x_iload (q := 138) X103 hx (hb hby at_136) rfl rfl ?_
     replace A_b1 := ((A_b1.ext E101).keep K102 (ninS ne_b1_b101 nin0)).other W103 ne_b1_b101
     refine Run.y_ldC (q := 139) X103 hx hZ e103 A_b1 (i := 0) (v := (.int k0)) (by decide) rfl (hb hby at_138) rfl ?_
     refine Run.x_iload (q := 141) X103 hx (hb hby at_139) rfl rfl ?_
     by_cases hc141 : k0 = wd
     ·skip
      refine Run.x_icmpNo (q := 144) X103 hx (hb hby at_141) (teq hc141).2 rfl ?_
      refine Run.x_iconst (q := 145) X103 hx (hb hby at_144) (z := (1 : Int32)) rfl rfl ?_
      refine Run.x_goto (q := 149) X103 hx (hb hby at_145) (by decide) (by decide) ?_
      refine Run.x_istore (q := 151) X103 hx #[.val (.int p1), .val (.int p2), .val (.int p3), .val (.int p4), .val (.int p5), .val (.int p6), .val (.int k0), .val (.int k1), .val (.int k2), .val (.ref b1), .val (.int 3), .val (.int 0), z12, .val (.int wd), .val (.ref sb100), .val (.ref b101), .val (.int 1), .unset] (hb hby at_149) rfl rfl ?_
      refine Run.x_goto (q := 157) X103 hx (hb hby at_151) (by decide) (by decide) ?_
      refine Run.x_aload (q := 159) X103 hx (hb hby at_157) rfl rfl rfl ?_
      refine Run.x_iload (q := 161) X103 hx (hb hby at_159) rfl rfl ?_
      replace E_b101 := E_b101.wr W103
      replace F102_0 := F102_0.other W103 (Or.inr (slot_ne (Or.inr (wm43 hw)) (Or.inl (wm45 hw)) (by decide) (t := (.object "java/lang/String")) (t' := .int) (by decide) (by decide)))
      replace Es100 := ((Es100.ext E101).keep K102).wr W103
      replace Fc100 := ((Fc100.ext E101).keep K102 (ninS ne_sb100_b101 nin0)).other W103 (Or.inl ne_sb100_b101)
      replace Fv100 := ((Fv100.ext E101).keep K102 (ninS ne_sb100_b101 nin0)).other W103 (Or.inl ne_sb100_b101)
      replace Ab100 := ((Ab100.ext E101).keep K102 (ninS ne_bts100_b101 nin0)).other W103 ne_bts100_b101
      replace S_COMPACT_STRINGS := S_COMPACT_STRINGS.wr W103
      replace S_SIOOBE_FORMATTER := S_SIOOBE_FORMATTER.wr W103
      replace S__assertionsDisabled := S__assertionsDisabled.wr W103
      replace S_HI_BYTE_SHIFT := S_HI_BYTE_SHIFT.wr W103
      replace S_LO_BYTE_SHIFT := S_LO_BYTE_SHIFT.wr W103
      refine Run.callVI (q := 164) X103 hx hZ e103 (y := (⟨"com/example/sayso/sayso/TextCursor", "at", "(C)Z"⟩ : MethodName)) (z := (⟨"com/example/sayso/sayso/TextCursor", "at", "(C)Z"⟩ : MethodName)) hown (wm46 hw) (wm47 hw) (notFace_of_selects (args := #[]) (mvT hZ (wm49 hw))) (wm49 hw) (wm48 hw) (wm37 hw) (wm50 hw) (by decide) (a := b101) E_b101 (argsL := [(.int wd)]) (rest := []) (c_atl1 l Z a0 hw b101 wd h103 n0 Z103 (0 : Int32) (3 : Int32) sb100 cp bts100 [(.int (k0 >>> ((0 : Int32) &&& 31)).toInt8.toInt32), (.int (k0 >>> ((8 : Int32) &&& 31)).toInt8.toInt32), (.int (k1 >>> ((0 : Int32) &&& 31)).toInt8.toInt32), (.int (k1 >>> ((8 : Int32) &&& 31)).toInt8.toInt32), (.int (k2 >>> ((0 : Int32) &&& 31)).toInt8.toInt32), (.int (k2 >>> ((8 : Int32) &&& 31)).toInt8.toInt32)] (6 : Int32) sf (3 : Int32) 0 (k0 >>> ((0 : Int32) &&& 31)).toInt8.toInt32 (k0 >>> ((8 : Int32) &&& 31)).toInt8.toInt32 k0 E_b101 F102_1 F102_0 Es100 Fc100 Fv100 Ab100 S_COMPACT_STRINGS S_SIOOBE_FORMATTER S__assertionsDisabled S_HI_BYTE_SHIFT S_LO_BYTE_SHIFT hcp (by decide) (by decide) hsf rfl (by decide) (by decide) (by decide) (by decide) (by decide) rfl rfl (own_utf rk0) (own_nr rk0)) pd_19 rfl (by rw [hml]; rfl) (W := 0) rfl (by decide) (by decide) (by decide) (by decide) (hb hby at_161) rfl rfl fun T104 L104 X104 M104 e104 => ?_
      have N104 := Fr.app N103 M104
      refine Run.x_istore (q := 166) X104 hx #[.val (.int p1), .val (.int p2), .val (.int p3), .val (.int p4), .val (.int p5), .val (.int p6), .val (.int k0), .val (.int k1), .val (.int k2), .val (.ref b1), .val (.int 3), .val (.int 0), z12, .val (.int wd), .val (.ref sb100), .val (.ref b101), .val (.int 1), .val (.int (own_b (k0 = wd)))] (hb hby at_164) rfl rfl ?_
      refine Run.x_iload (q := 168) X104 hx (hb hby at_166) rfl rfl ?_
      refine Run.x_iload (q := 170) X104 hx (hb hby at_168) rfl rfl ?_
      refine Run.x_icmpNo (q := 173) X104 hx (hb hby at_170) (teq (own_b1 hc141)).2 rfl ?_
      refine Run.x_aload (q := 175) X104 hx (hb hby at_173) rfl rfl rfl ?_
      refine Run.z_getF (q := 178) X104 hx hZ e104 hown (wm44 hw) F102_1 (hb hby at_175) rfl fun T105 X105 e105 => ?_
      refine Run.x_iload (q := 180) X105 hx (hb hby at_178) rfl rfl ?_
      refine Run.x_icmpNo (q := 183) X105 hx (hb hby at_180) (teq (by decide : (0 : Int32) = (0 : Int32))).2 rfl ?_
      refine Run.x_aload (q := 185) X105 hx (hb hby at_183) rfl rfl rfl ?_
      refine Run.z_getF (q := 188) X105 hx hZ e105 hown (wm84 hw) F102_0 (hb hby at_185) rfl fun T106 X106 e106 => ?_
      refine Run.x_aload (q := 190) X106 hx (hb hby at_188) rfl rfl rfl ?_
      refine Run.st (B := T106.setTop (mkF m 193 #[.val (.int p1), .val (.int p2), .val (.int p3), .val (.int p4), .val (.int p5), .val (.int p6), .val (.int k0), .val (.int k1), .val (.int k2), .val (.ref b1), .val (.int 3), .val (.int 0), z12, .val (.int wd), .val (.ref sb100), .val (.ref b101), .val (.int 1), .val (.int (own_b (k0 = wd)))] [])) (fun t kt => Jvm.RoadKit.acmp (g := (mkF m 190 #[.val (.int p1), .val (.int p2), .val (.int p3), .val (.int p4), .val (.int p5), .val (.int p6), .val (.int k0), .val (.int k1), .val (.int k2), .val (.ref b1), .val (.int 3), .val (.int 0), z12, .val (.int wd), .val (.ref sb100), .val (.ref b101), .val (.int 1), .val (.int (own_b (k0 = wd)))] [(.ref sb100), (.ref sb100)])) X106 hx rfl rfl rfl (pc0 := 190) (pc' := 193) (same := true) rfl (hb hby at_190) rfl (decide_eq_true rfl) (by decide) (by decide) kt) ?_
      refine Run.x_iconst (q := 194) X106 hx (hb hby at_193) (z := (1 : Int32)) rfl rfl ?_
      refine Run.x_goto (q := 198) X106 hx (hb hby at_194) (by decide) (by decide) ?_
      refine Run.retN X106 hx hlk e106 (t := .boolean) hret (by simp) (z' := (1 : Int32)) (by decide) (hb hby at_198) (by decide) (by decide) ?_
      exact ⟨rfl, N104⟩
     ·skip
      refine Run.x_icmpYes (q := 148) X103 hx (hb hby at_141) (feq hc141).2 (by decide) (by decide) ?_
      refine Run.x_iconst (q := 149) X103 hx (hb hby at_148) (z := (0 : Int32)) rfl rfl ?_
      refine Run.x_istore (q := 151) X103 hx #[.val (.int p1), .val (.int p2), .val (.int p3), .val (.int p4), .val (.int p5), .val (.int p6), .val (.int k0), .val (.int k1), .val (.int k2), .val (.ref b1), .val (.int 3), .val (.int 0), z12, .val (.int wd), .val (.ref sb100), .val (.ref b101), .val (.int 0), .unset] (hb hby at_149) rfl rfl ?_
      refine Run.x_goto (q := 157) X103 hx (hb hby at_151) (by decide) (by decide) ?_
      refine Run.x_aload (q := 159) X103 hx (hb hby at_157) rfl rfl rfl ?_
      refine Run.x_iload (q := 161) X103 hx (hb hby at_159) rfl rfl ?_
      replace E_b101 := E_b101.wr W103
      replace F102_0 := F102_0.other W103 (Or.inr (slot_ne (Or.inr (wm43 hw)) (Or.inl (wm45 hw)) (by decide) (t := (.object "java/lang/String")) (t' := .int) (by decide) (by decide)))
      replace Es100 := ((Es100.ext E101).keep K102).wr W103
      replace Fc100 := ((Fc100.ext E101).keep K102 (ninS ne_sb100_b101 nin0)).other W103 (Or.inl ne_sb100_b101)
      replace Fv100 := ((Fv100.ext E101).keep K102 (ninS ne_sb100_b101 nin0)).other W103 (Or.inl ne_sb100_b101)
      replace Ab100 := ((Ab100.ext E101).keep K102 (ninS ne_bts100_b101 nin0)).other W103 ne_bts100_b101
      replace S_COMPACT_STRINGS := S_COMPACT_STRINGS.wr W103
      replace S_SIOOBE_FORMATTER := S_SIOOBE_FORMATTER.wr W103
      replace S__assertionsDisabled := S__assertionsDisabled.wr W103
      replace S_HI_BYTE_SHIFT := S_HI_BYTE_SHIFT.wr W103
      replace S_LO_BYTE_SHIFT := S_LO_BYTE_SHIFT.wr W103
      refine Run.callVI (q := 164) X103 hx hZ e103 (y := (⟨"com/example/sayso/sayso/TextCursor", "at", "(C)Z"⟩ : MethodName)) (z := (⟨"com/example/sayso/sayso/TextCursor", "at", "(C)Z"⟩ : MethodName)) hown (wm46 hw) (wm47 hw) (notFace_of_selects (args := #[]) (mvT hZ (wm49 hw))) (wm49 hw) (wm48 hw) (wm37 hw) (wm50 hw) (by decide) (a := b101) E_b101 (argsL := [(.int wd)]) (rest := []) (c_atl1 l Z a0 hw b101 wd h103 n0 Z103 (0 : Int32) (3 : Int32) sb100 cp bts100 [(.int (k0 >>> ((0 : Int32) &&& 31)).toInt8.toInt32), (.int (k0 >>> ((8 : Int32) &&& 31)).toInt8.toInt32), (.int (k1 >>> ((0 : Int32) &&& 31)).toInt8.toInt32), (.int (k1 >>> ((8 : Int32) &&& 31)).toInt8.toInt32), (.int (k2 >>> ((0 : Int32) &&& 31)).toInt8.toInt32), (.int (k2 >>> ((8 : Int32) &&& 31)).toInt8.toInt32)] (6 : Int32) sf (3 : Int32) 0 (k0 >>> ((0 : Int32) &&& 31)).toInt8.toInt32 (k0 >>> ((8 : Int32) &&& 31)).toInt8.toInt32 k0 E_b101 F102_1 F102_0 Es100 Fc100 Fv100 Ab100 S_COMPACT_STRINGS S_SIOOBE_FORMATTER S__assertionsDisabled S_HI_BYTE_SHIFT S_LO_BYTE_SHIFT hcp (by decide) (by decide) hsf rfl (by decide) (by decide) (by decide) (by decide) (by decide) rfl rfl (own_utf rk0) (own_nr rk0)) pd_19 rfl (by rw [hml]; rfl) (W := 0) rfl (by decide) (by decide) (by decide) (by decide) (hb hby at_161) rfl rfl fun T107 L107 X107 M107 e107 => ?_
      have N107 := Fr.app N103 M107
      refine Run.x_istore (q := 166) X107 hx #[.val (.int p1), .val (.int p2), .val (.int p3), .val (.int p4), .val (.int p5), .val (.int p6), .val (.int k0), .val (.int k1), .val (.int k2), .val (.ref b1), .val (.int 3), .val (.int 0), z12, .val (.int wd), .val (.ref sb100), .val (.ref b101), .val (.int 0), .val (.int (own_b (k0 = wd)))] (hb hby at_164) rfl rfl ?_
      refine Run.x_iload (q := 168) X107 hx (hb hby at_166) rfl rfl ?_
      refine Run.x_iload (q := 170) X107 hx (hb hby at_168) rfl rfl ?_
      refine Run.x_icmpNo (q := 173) X107 hx (hb hby at_170) (teq (own_b0 hc141)).2 rfl ?_
      refine Run.x_aload (q := 175) X107 hx (hb hby at_173) rfl rfl rfl ?_
      refine Run.z_getF (q := 178) X107 hx hZ e107 hown (wm44 hw) F102_1 (hb hby at_175) rfl fun T108 X108 e108 => ?_
      refine Run.x_iload (q := 180) X108 hx (hb hby at_178) rfl rfl ?_
      refine Run.x_icmpNo (q := 183) X108 hx (hb hby at_180) (teq (by decide : (0 : Int32) = (0 : Int32))).2 rfl ?_
      refine Run.x_aload (q := 185) X108 hx (hb hby at_183) rfl rfl rfl ?_
      refine Run.z_getF (q := 188) X108 hx hZ e108 hown (wm84 hw) F102_0 (hb hby at_185) rfl fun T109 X109 e109 => ?_
      refine Run.x_aload (q := 190) X109 hx (hb hby at_188) rfl rfl rfl ?_
      refine Run.st (B := T109.setTop (mkF m 193 #[.val (.int p1), .val (.int p2), .val (.int p3), .val (.int p4), .val (.int p5), .val (.int p6), .val (.int k0), .val (.int k1), .val (.int k2), .val (.ref b1), .val (.int 3), .val (.int 0), z12, .val (.int wd), .val (.ref sb100), .val (.ref b101), .val (.int 0), .val (.int (own_b (k0 = wd)))] [])) (fun t kt => Jvm.RoadKit.acmp (g := (mkF m 190 #[.val (.int p1), .val (.int p2), .val (.int p3), .val (.int p4), .val (.int p5), .val (.int p6), .val (.int k0), .val (.int k1), .val (.int k2), .val (.ref b1), .val (.int 3), .val (.int 0), z12, .val (.int wd), .val (.ref sb100), .val (.ref b101), .val (.int 0), .val (.int (own_b (k0 = wd)))] [(.ref sb100), (.ref sb100)])) X109 hx rfl rfl rfl (pc0 := 190) (pc' := 193) (same := true) rfl (hb hby at_190) rfl (decide_eq_true rfl) (by decide) (by decide) kt) ?_
      refine Run.x_iconst (q := 194) X109 hx (hb hby at_193) (z := (1 : Int32)) rfl rfl ?_
      refine Run.x_goto (q := 198) X109 hx (hb hby at_194) (by decide) (by decide) ?_
      refine Run.retN X109 hx hlk e109 (t := .boolean) hret (by simp) (z' := (1 : Int32)) (by decide) (hb hby at_198) (by decide) (by decide) ?_
      exact ⟨rfl, N107⟩
    ·skip
     show Run p e below s _ _ _ (T4.setTop (mkF m 96 #[.val (.int p1), .val (.int p2), .val (.int p3), .val (.int p4), .val (.int p5), .val (.int p6), .val (.int k0), .val (.int k1), .val (.int k2), .val (.ref b1), .val (.int 3), .val (.int 1), z12, .val (.int wd), .unset, .unset, .unset, .unset] []))
     refine Run.x_iload (q := 98) X4 hx (hb hby at_96) rfl rfl ?_
     refine Run.x_iload (q := 100) X4 hx (hb hby at_98) rfl rfl ?_
     refine Run.x_iload (q := 102) X4 hx (hb hby at_100) rfl rfl ?_
     refine Run.x_iload (q := 104) X4 hx (hb hby at_102) rfl rfl ?_
     replace S_COMPACT_STRINGS := (((S_COMPACT_STRINGS.ext E1).wr W2).wr W3).wr W4
     replace S__assertionsDisabled := (((S__assertionsDisabled.ext E1).wr W2).wr W3).wr W4
     replace S_HI_BYTE_SHIFT := (((S_HI_BYTE_SHIFT.ext E1).wr W2).wr W3).wr W4
     replace S_LO_BYTE_SHIFT := (((S_LO_BYTE_SHIFT.ext E1).wr W2).wr W3).wr W4
     refine Run.callS X4 hx hZ e4 (y := (⟨"com/example/sayso/sayso/TextCursorAtPinLaw", "make", "(ICCC)Ljava/lang/String;"⟩ : MethodName)) hown (wm2 hw) (wm3 hw) (wm4 hw) (wm5 hw) (by decide) (argsL := [(.int 3), (.int k0), (.int k1), (.int k2)]) (rest := []) (c_mk_3_1 l Z a0 hw k0 k1 k2 h4 n0 Z4 cp S_COMPACT_STRINGS S__assertionsDisabled S_HI_BYTE_SHIFT S_LO_BYTE_SHIFT hcp hA rk0 rk1 rk2) pd_17 rfl (by rw [hml]; rfl) (W := 0) rfl (by decide) (by decide) (by decide) (by decide) (hb hby at_104) rfl ?_
     intro T110 v110 L110 X110 q110
     obtain ⟨sb110, bts110, rfl, M110, K110, sz110, Es110, Fv110, Fc110, Ab110⟩ := q110
     have N110 := Fr.app N4 M110
     show Run p e below s _ _ _ (T110.setTop (mkF m 107 #[.val (.int p1), .val (.int p2), .val (.int p3), .val (.int p4), .val (.int p5), .val (.int p6), .val (.int k0), .val (.int k1), .val (.int k2), .val (.ref b1), .val (.int 3), .val (.int 1), z12, .val (.int wd), .unset, .unset, .unset, .unset] [(.ref sb110)]))
     have ne_b1_sb110 : b1 ≠ sb110 := Nat.ne_of_lt (Nat.lt_of_lt_of_le A_b1.lt sz110)
     replace S_COMPACT_STRINGS := Sta_keep S_COMPACT_STRINGS K110 all0
     replace S_SIOOBE_FORMATTER := (((S_SIOOBE_FORMATTER.ext E1).wr W2).wr W3).wr W4
     replace S_SIOOBE_FORMATTER := Sta_keep S_SIOOBE_FORMATTER K110 all0
     replace S__assertionsDisabled := Sta_keep S__assertionsDisabled K110 all0
     replace S_HI_BYTE_SHIFT := Sta_keep S_HI_BYTE_SHIFT K110 all0
     replace S_LO_BYTE_SHIFT := Sta_keep S_LO_BYTE_SHIFT K110 all0
     have Z110 : n0 ≤ T110.heap.size := Nat.le_trans Z4 K110.1
     replace KP := KP.trans K110 all0
     refine Run.x_astore (q := 109) X110 hx #[.val (.int p1), .val (.int p2), .val (.int p3), .val (.int p4), .val (.int p5), .val (.int p6), .val (.int k0), .val (.int k1), .val (.int k2), .val (.ref b1), .val (.int 3), .val (.int 1), z12, .val (.int wd), .val (.ref sb110), .unset, .unset, .unset] (hb hby at_107) rfl rfl rfl ?_
     obtain ⟨T111, h111, X111, e111, E111, A111, D111, -, st111⟩ := newO X110 hx hZ hown (wm35 hw) (wm36 hw) (wm37 hw) rfl (g := (mkF m 109 #[.val (.int p1), .val (.int p2), .val (.int p3), .val (.int p4), .val (.int p5), .val (.int p6), .val (.int k0), .val (.int k1), .val (.int k2), .val (.ref b1), .val (.int 3), .val (.int 1), z12, .val (.int wd), .val (.ref sb110), .unset, .unset, .unset] [])) rfl (hb hby at_109) (by decide) (by decide)
     obtain ⟨b111, gg111⟩ : ∃ z, z = T110.heap.size := ⟨_, rfl⟩
     rw [← gg111] at A111 D111 st111
     have g_b111 : n0 ≤ b111 := Nat.le_trans Z110 (Nat.le_of_eq gg111.symm)
     replace A_b1 := A_b1.keep K110 nin0
     have ne_b1_b111 : b1 ≠ b111 := Nat.ne_of_lt (Nat.lt_of_lt_of_le A_b1.lt (Nat.le_of_eq gg111.symm))
     have ne_sb110_b111 : sb110 ≠ b111 := Nat.ne_of_lt (Nat.lt_of_lt_of_le Es110.lt (Nat.le_of_eq gg111.symm))
     have ne_bts110_b111 : bts110 ≠ b111 := Nat.ne_of_lt (Nat.lt_of_lt_of_le Ab110.lt (Nat.le_of_eq gg111.symm))
     have sz_b111 : h0.size ≤ b111 := Nat.le_trans KP.1 (Nat.le_of_eq gg111.symm)
     have Z111 : n0 ≤ h111.size := Nat.le_trans Z110 E111.1
     replace KP := KP.ext E111
     have E_b111 := A111
     have F_b111_text : Fld Z h111 b111 "com/example/sayso/sayso/TextCursor" "text" "Ljava/lang/String;" .null := D111 (Or.inr (wm43 hw)) (ty := (.object "java/lang/String")) (by decide)
     have F_b111_position : Fld Z h111 b111 "com/example/sayso/sayso/TextCursor" "position" "I" (.int 0) := D111 (Or.inl (wm45 hw)) (ty := .int) (by decide)
     refine Run.st st111 ?_
     show Run p e below s _ _ _ (T111.setTop (mkF m 112 #[.val (.int p1), .val (.int p2), .val (.int p3), .val (.int p4), .val (.int p5), .val (.int p6), .val (.int k0), .val (.int k1), .val (.int k2), .val (.ref b1), .val (.int 3), .val (.int 1), z12, .val (.int wd), .val (.ref sb110), .unset, .unset, .unset] [(.ref b111)]))
     refine Run.x_dup (q := 113) X111 hx (hb hby at_112) rfl rfl ?_
     refine Run.x_aload (q := 115) X111 hx (hb hby at_113) rfl rfl rfl ?_
     refine Run.callC X111 hx hZ e111 (y := (⟨"com/example/sayso/sayso/TextCursor", "<init>", "(Ljava/lang/String;)V"⟩ : MethodName)) hown rfl (wm38 hw) (wm39 hw) (wm37 hw) (wm40 hw) (by decide) (a := b111) (argsL := [(.ref sb110)]) (rest := [(.ref b111)]) (c_tci l Z a0 hw b111 sb110 h111 n0 Z111 E_b111 F_b111_text F_b111_position g_b111) pd_18 rfl (by rw [hml]; rfl) (W := 1) rfl (by decide) (by decide) (by decide) (by decide) (hb hby at_115) rfl ?_
     intro T112 v112 L112 X112 q112
     obtain ⟨rfl, M112, K112, E112, F112_0, F112_1⟩ := q112
     have N112 := Fr.app N110 M112
     show Run p e below s _ _ _ (T112.setTop (mkF m 118 #[.val (.int p1), .val (.int p2), .val (.int p3), .val (.int p4), .val (.int p5), .val (.int p6), .val (.int k0), .val (.int k1), .val (.int k2), .val (.ref b1), .val (.int 3), .val (.int 1), z12, .val (.int wd), .val (.ref sb110), .unset, .unset, .unset] [(.ref b111)]))
     replace S_COMPACT_STRINGS := S_COMPACT_STRINGS.ext E111
     replace S_COMPACT_STRINGS := Sta_keep S_COMPACT_STRINGS K112 (allS (Exa_ns E_b111) all0)
     replace S_SIOOBE_FORMATTER := S_SIOOBE_FORMATTER.ext E111
     replace S_SIOOBE_FORMATTER := Sta_keep S_SIOOBE_FORMATTER K112 (allS (Exa_ns E_b111) all0)
     replace S__assertionsDisabled := S__assertionsDisabled.ext E111
     replace S__assertionsDisabled := Sta_keep S__assertionsDisabled K112 (allS (Exa_ns E_b111) all0)
     replace S_HI_BYTE_SHIFT := S_HI_BYTE_SHIFT.ext E111
     replace S_HI_BYTE_SHIFT := Sta_keep S_HI_BYTE_SHIFT K112 (allS (Exa_ns E_b111) all0)
     replace S_LO_BYTE_SHIFT := S_LO_BYTE_SHIFT.ext E111
     replace S_LO_BYTE_SHIFT := Sta_keep S_LO_BYTE_SHIFT K112 (allS (Exa_ns E_b111) all0)
     have Z112 : n0 ≤ T112.heap.size := Nat.le_trans Z111 K112.1
     replace KP := KP.trans K112 (allS (Or.inr sz_b111) all0)
     refine Run.x_astore (q := 120) X112 hx #[.val (.int p1), .val (.int p2), .val (.int p3), .val (.int p4), .val (.int p5), .val (.int p6), .val (.int k0), .val (.int k1), .val (.int k2), .val (.ref b1), .val (.int 3), .val (.int 1), z12, .val (.int wd), .val (.ref sb110), .val (.ref b111), .unset, .unset] (hb hby at_118) rfl rfl rfl ?_
     refine Run.x_aload (q := 122) X112 hx (hb hby at_120) rfl rfl rfl ?_
     refine Run.x_iload (q := 124) X112 hx (hb hby at_122) rfl rfl ?_
     replace E_b111 := E_b111.keep K112
     obtain ⟨T113, h113, X113, e113, W113, st113⟩ := putF X112 hx hZ hown (host := "") (Or.inl (wm44 hw)) Via.refl rfl F112_1 E_b111 (Or.inl (wm45 hw)) (wm36 hw) (ty := .int) (by decide) rfl rfl (g := (mkF m 124 #[.val (.int p1), .val (.int p2), .val (.int p3), .val (.int p4), .val (.int p5), .val (.int p6), .val (.int k0), .val (.int k1), .val (.int k2), .val (.ref b1), .val (.int 3), .val (.int 1), z12, .val (.int wd), .val (.ref sb110), .val (.ref b111), .unset, .unset] [(.int 1), (.ref b111)])) rfl rfl (hb hby at_124)
     replace F112_1 := F112_1.same W113
     have Z113 : n0 ≤ h113.size := Nat.le_trans Z112 (Nat.le_of_eq W113.size.symm)
     replace KP := KP.wr W113 (Or.inr sz_b111)
     have N113 := Fr.snoc X113 N112 g_b111
     refine Run.st st113 ?_
     show Run p e below s _ _ _ (T113.setTop (mkF m 127 #[.val (.int p1), .val (.int p2), .val (.int p3), .val (.int p4), .val (.int p5), .val (.int p6), .val (.int k0), .val (.int k1), .val (.int k2), .val (.ref b1), .val (.int 3), .val (.int 1), z12, .val (.int wd), .val (.ref sb110), .val (.ref b111), .unset, .unset] []))
     refine Run.x_iload (q := 129) X113 hx (hb hby at_127) rfl rfl ?_
     refine Run.x_iload (q := 131) X113 hx (hb hby at_129) rfl rfl ?_
     refine Run.x_icmpNo (q := 134) X113 hx (hb hby at_131) (tlt (by decide : (1 : Int32) < (3 : Int32))).2.1 rfl ?_
     refine Run.x_aload (q := 136) X113 hx (hb hby at_134) rfl rfl rfl ?_
     refine Run.x_iload (q := 138) X113 hx (hb hby at_136) rfl rfl ?_
     replace A_b1 := ((A_b1.ext E111).keep K112 (ninS ne_b1_b111 nin0)).other W113 ne_b1_b111
     refine Run.y_ldC (q := 139) X113 hx hZ e113 A_b1 (i := 1) (v := (.int k1)) (by decide) rfl (hb hby at_138) rfl ?_
     refine Run.x_iload (q := 141) X113 hx (hb hby at_139) rfl rfl ?_
     by_cases hc141 : k1 = wd
     ·skip
      refine Run.x_icmpNo (q := 144) X113 hx (hb hby at_141) (teq hc141).2 rfl ?_
      refine Run.x_iconst (q := 145) X113 hx (hb hby at_144) (z := (1 : Int32)) rfl rfl ?_
      refine Run.x_goto (q := 149) X113 hx (hb hby at_145) (by decide) (by decide) ?_
      refine Run.x_istore (q := 151) X113 hx #[.val (.int p1), .val (.int p2), .val (.int p3), .val (.int p4), .val (.int p5), .val (.int p6), .val (.int k0), .val (.int k1), .val (.int k2), .val (.ref b1), .val (.int 3), .val (.int 1), z12, .val (.int wd), .val (.ref sb110), .val (.ref b111), .val (.int 1), .unset] (hb hby at_149) rfl rfl ?_
      refine Run.x_goto (q := 157) X113 hx (hb hby at_151) (by decide) (by decide) ?_
      refine Run.x_aload (q := 159) X113 hx (hb hby at_157) rfl rfl rfl ?_
      refine Run.x_iload (q := 161) X113 hx (hb hby at_159) rfl rfl ?_
      replace E_b111 := E_b111.wr W113
      replace F112_0 := F112_0.other W113 (Or.inr (slot_ne (Or.inr (wm43 hw)) (Or.inl (wm45 hw)) (by decide) (t := (.object "java/lang/String")) (t' := .int) (by decide) (by decide)))
      replace Es110 := ((Es110.ext E111).keep K112).wr W113
      replace Fc110 := ((Fc110.ext E111).keep K112 (ninS ne_sb110_b111 nin0)).other W113 (Or.inl ne_sb110_b111)
      replace Fv110 := ((Fv110.ext E111).keep K112 (ninS ne_sb110_b111 nin0)).other W113 (Or.inl ne_sb110_b111)
      replace Ab110 := ((Ab110.ext E111).keep K112 (ninS ne_bts110_b111 nin0)).other W113 ne_bts110_b111
      replace S_COMPACT_STRINGS := S_COMPACT_STRINGS.wr W113
      replace S_SIOOBE_FORMATTER := S_SIOOBE_FORMATTER.wr W113
      replace S__assertionsDisabled := S__assertionsDisabled.wr W113
      replace S_HI_BYTE_SHIFT := S_HI_BYTE_SHIFT.wr W113
      replace S_LO_BYTE_SHIFT := S_LO_BYTE_SHIFT.wr W113
      refine Run.callVI (q := 164) X113 hx hZ e113 (y := (⟨"com/example/sayso/sayso/TextCursor", "at", "(C)Z"⟩ : MethodName)) (z := (⟨"com/example/sayso/sayso/TextCursor", "at", "(C)Z"⟩ : MethodName)) hown (wm46 hw) (wm47 hw) (notFace_of_selects (args := #[]) (mvT hZ (wm49 hw))) (wm49 hw) (wm48 hw) (wm37 hw) (wm50 hw) (by decide) (a := b111) E_b111 (argsL := [(.int wd)]) (rest := []) (c_atl1 l Z a0 hw b111 wd h113 n0 Z113 (1 : Int32) (3 : Int32) sb110 cp bts110 [(.int (k0 >>> ((0 : Int32) &&& 31)).toInt8.toInt32), (.int (k0 >>> ((8 : Int32) &&& 31)).toInt8.toInt32), (.int (k1 >>> ((0 : Int32) &&& 31)).toInt8.toInt32), (.int (k1 >>> ((8 : Int32) &&& 31)).toInt8.toInt32), (.int (k2 >>> ((0 : Int32) &&& 31)).toInt8.toInt32), (.int (k2 >>> ((8 : Int32) &&& 31)).toInt8.toInt32)] (6 : Int32) sf (3 : Int32) 2 (k1 >>> ((0 : Int32) &&& 31)).toInt8.toInt32 (k1 >>> ((8 : Int32) &&& 31)).toInt8.toInt32 k1 E_b111 F112_1 F112_0 Es110 Fc110 Fv110 Ab110 S_COMPACT_STRINGS S_SIOOBE_FORMATTER S__assertionsDisabled S_HI_BYTE_SHIFT S_LO_BYTE_SHIFT hcp (by decide) (by decide) hsf rfl (by decide) (by decide) (by decide) (by decide) (by decide) rfl rfl (own_utf rk1) (own_nr rk1)) pd_19 rfl (by rw [hml]; rfl) (W := 0) rfl (by decide) (by decide) (by decide) (by decide) (hb hby at_161) rfl rfl fun T114 L114 X114 M114 e114 => ?_
      have N114 := Fr.app N113 M114
      refine Run.x_istore (q := 166) X114 hx #[.val (.int p1), .val (.int p2), .val (.int p3), .val (.int p4), .val (.int p5), .val (.int p6), .val (.int k0), .val (.int k1), .val (.int k2), .val (.ref b1), .val (.int 3), .val (.int 1), z12, .val (.int wd), .val (.ref sb110), .val (.ref b111), .val (.int 1), .val (.int (own_b (k1 = wd)))] (hb hby at_164) rfl rfl ?_
      refine Run.x_iload (q := 168) X114 hx (hb hby at_166) rfl rfl ?_
      refine Run.x_iload (q := 170) X114 hx (hb hby at_168) rfl rfl ?_
      refine Run.x_icmpNo (q := 173) X114 hx (hb hby at_170) (teq (own_b1 hc141)).2 rfl ?_
      refine Run.x_aload (q := 175) X114 hx (hb hby at_173) rfl rfl rfl ?_
      refine Run.z_getF (q := 178) X114 hx hZ e114 hown (wm44 hw) F112_1 (hb hby at_175) rfl fun T115 X115 e115 => ?_
      refine Run.x_iload (q := 180) X115 hx (hb hby at_178) rfl rfl ?_
      refine Run.x_icmpNo (q := 183) X115 hx (hb hby at_180) (teq (by decide : (1 : Int32) = (1 : Int32))).2 rfl ?_
      refine Run.x_aload (q := 185) X115 hx (hb hby at_183) rfl rfl rfl ?_
      refine Run.z_getF (q := 188) X115 hx hZ e115 hown (wm84 hw) F112_0 (hb hby at_185) rfl fun T116 X116 e116 => ?_
      refine Run.x_aload (q := 190) X116 hx (hb hby at_188) rfl rfl rfl ?_
      refine Run.st (B := T116.setTop (mkF m 193 #[.val (.int p1), .val (.int p2), .val (.int p3), .val (.int p4), .val (.int p5), .val (.int p6), .val (.int k0), .val (.int k1), .val (.int k2), .val (.ref b1), .val (.int 3), .val (.int 1), z12, .val (.int wd), .val (.ref sb110), .val (.ref b111), .val (.int 1), .val (.int (own_b (k1 = wd)))] [])) (fun t kt => Jvm.RoadKit.acmp (g := (mkF m 190 #[.val (.int p1), .val (.int p2), .val (.int p3), .val (.int p4), .val (.int p5), .val (.int p6), .val (.int k0), .val (.int k1), .val (.int k2), .val (.ref b1), .val (.int 3), .val (.int 1), z12, .val (.int wd), .val (.ref sb110), .val (.ref b111), .val (.int 1), .val (.int (own_b (k1 = wd)))] [(.ref sb110), (.ref sb110)])) X116 hx rfl rfl rfl (pc0 := 190) (pc' := 193) (same := true) rfl (hb hby at_190) rfl (decide_eq_true rfl) (by decide) (by decide) kt) ?_
      refine Run.x_iconst (q := 194) X116 hx (hb hby at_193) (z := (1 : Int32)) rfl rfl ?_
      refine Run.x_goto (q := 198) X116 hx (hb hby at_194) (by decide) (by decide) ?_
      refine Run.retN X116 hx hlk e116 (t := .boolean) hret (by simp) (z' := (1 : Int32)) (by decide) (hb hby at_198) (by decide) (by decide) ?_
      exact ⟨rfl, N114⟩
     ·skip
      refine Run.x_icmpYes (q := 148) X113 hx (hb hby at_141) (feq hc141).2 (by decide) (by decide) ?_
      refine Run.x_iconst (q := 149) X113 hx (hb hby at_148) (z := (0 : Int32)) rfl rfl ?_
      refine Run.x_istore (q := 151) X113 hx #[.val (.int p1), .val (.int p2), .val (.int p3), .val (.int p4), .val (.int p5), .val (.int p6), .val (.int k0), .val (.int k1), .val (.int k2), .val (.ref b1), .val (.int 3), .val (.int 1), z12, .val (.int wd), .val (.ref sb110), .val (.ref b111), .val (.int 0), .unset] (hb hby at_149) rfl rfl ?_
      refine Run.x_goto (q := 157) X113 hx (hb hby at_151) (by decide) (by decide) ?_
      refine Run.x_aload (q := 159) X113 hx (hb hby at_157) rfl rfl rfl ?_
      refine Run.x_iload (q := 161) X113 hx (hb hby at_159) rfl rfl ?_
      replace E_b111 := E_b111.wr W113
      replace F112_0 := F112_0.other W113 (Or.inr (slot_ne (Or.inr (wm43 hw)) (Or.inl (wm45 hw)) (by decide) (t := (.object "java/lang/String")) (t' := .int) (by decide) (by decide)))
      replace Es110 := ((Es110.ext E111).keep K112).wr W113
      replace Fc110 := ((Fc110.ext E111).keep K112 (ninS ne_sb110_b111 nin0)).other W113 (Or.inl ne_sb110_b111)
      replace Fv110 := ((Fv110.ext E111).keep K112 (ninS ne_sb110_b111 nin0)).other W113 (Or.inl ne_sb110_b111)
      replace Ab110 := ((Ab110.ext E111).keep K112 (ninS ne_bts110_b111 nin0)).other W113 ne_bts110_b111
      replace S_COMPACT_STRINGS := S_COMPACT_STRINGS.wr W113
      replace S_SIOOBE_FORMATTER := S_SIOOBE_FORMATTER.wr W113
      replace S__assertionsDisabled := S__assertionsDisabled.wr W113
      replace S_HI_BYTE_SHIFT := S_HI_BYTE_SHIFT.wr W113
      replace S_LO_BYTE_SHIFT := S_LO_BYTE_SHIFT.wr W113
      refine Run.callVI (q := 164) X113 hx hZ e113 (y := (⟨"com/example/sayso/sayso/TextCursor", "at", "(C)Z"⟩ : MethodName)) (z := (⟨"com/example/sayso/sayso/TextCursor", "at", "(C)Z"⟩ : MethodName)) hown (wm46 hw) (wm47 hw) (notFace_of_selects (args := #[]) (mvT hZ (wm49 hw))) (wm49 hw) (wm48 hw) (wm37 hw) (wm50 hw) (by decide) (a := b111) E_b111 (argsL := [(.int wd)]) (rest := []) (c_atl1 l Z a0 hw b111 wd h113 n0 Z113 (1 : Int32) (3 : Int32) sb110 cp bts110 [(.int (k0 >>> ((0 : Int32) &&& 31)).toInt8.toInt32), (.int (k0 >>> ((8 : Int32) &&& 31)).toInt8.toInt32), (.int (k1 >>> ((0 : Int32) &&& 31)).toInt8.toInt32), (.int (k1 >>> ((8 : Int32) &&& 31)).toInt8.toInt32), (.int (k2 >>> ((0 : Int32) &&& 31)).toInt8.toInt32), (.int (k2 >>> ((8 : Int32) &&& 31)).toInt8.toInt32)] (6 : Int32) sf (3 : Int32) 2 (k1 >>> ((0 : Int32) &&& 31)).toInt8.toInt32 (k1 >>> ((8 : Int32) &&& 31)).toInt8.toInt32 k1 E_b111 F112_1 F112_0 Es110 Fc110 Fv110 Ab110 S_COMPACT_STRINGS S_SIOOBE_FORMATTER S__assertionsDisabled S_HI_BYTE_SHIFT S_LO_BYTE_SHIFT hcp (by decide) (by decide) hsf rfl (by decide) (by decide) (by decide) (by decide) (by decide) rfl rfl (own_utf rk1) (own_nr rk1)) pd_19 rfl (by rw [hml]; rfl) (W := 0) rfl (by decide) (by decide) (by decide) (by decide) (hb hby at_161) rfl rfl fun T117 L117 X117 M117 e117 => ?_
      have N117 := Fr.app N113 M117
      refine Run.x_istore (q := 166) X117 hx #[.val (.int p1), .val (.int p2), .val (.int p3), .val (.int p4), .val (.int p5), .val (.int p6), .val (.int k0), .val (.int k1), .val (.int k2), .val (.ref b1), .val (.int 3), .val (.int 1), z12, .val (.int wd), .val (.ref sb110), .val (.ref b111), .val (.int 0), .val (.int (own_b (k1 = wd)))] (hb hby at_164) rfl rfl ?_
      refine Run.x_iload (q := 168) X117 hx (hb hby at_166) rfl rfl ?_
      refine Run.x_iload (q := 170) X117 hx (hb hby at_168) rfl rfl ?_
      refine Run.x_icmpNo (q := 173) X117 hx (hb hby at_170) (teq (own_b0 hc141)).2 rfl ?_
      refine Run.x_aload (q := 175) X117 hx (hb hby at_173) rfl rfl rfl ?_
      refine Run.z_getF (q := 178) X117 hx hZ e117 hown (wm44 hw) F112_1 (hb hby at_175) rfl fun T118 X118 e118 => ?_
      refine Run.x_iload (q := 180) X118 hx (hb hby at_178) rfl rfl ?_
      refine Run.x_icmpNo (q := 183) X118 hx (hb hby at_180) (teq (by decide : (1 : Int32) = (1 : Int32))).2 rfl ?_
      refine Run.x_aload (q := 185) X118 hx (hb hby at_183) rfl rfl rfl ?_
      refine Run.z_getF (q := 188) X118 hx hZ e118 hown (wm84 hw) F112_0 (hb hby at_185) rfl fun T119 X119 e119 => ?_
      refine Run.x_aload (q := 190) X119 hx (hb hby at_188) rfl rfl rfl ?_
      refine Run.st (B := T119.setTop (mkF m 193 #[.val (.int p1), .val (.int p2), .val (.int p3), .val (.int p4), .val (.int p5), .val (.int p6), .val (.int k0), .val (.int k1), .val (.int k2), .val (.ref b1), .val (.int 3), .val (.int 1), z12, .val (.int wd), .val (.ref sb110), .val (.ref b111), .val (.int 0), .val (.int (own_b (k1 = wd)))] [])) (fun t kt => Jvm.RoadKit.acmp (g := (mkF m 190 #[.val (.int p1), .val (.int p2), .val (.int p3), .val (.int p4), .val (.int p5), .val (.int p6), .val (.int k0), .val (.int k1), .val (.int k2), .val (.ref b1), .val (.int 3), .val (.int 1), z12, .val (.int wd), .val (.ref sb110), .val (.ref b111), .val (.int 0), .val (.int (own_b (k1 = wd)))] [(.ref sb110), (.ref sb110)])) X119 hx rfl rfl rfl (pc0 := 190) (pc' := 193) (same := true) rfl (hb hby at_190) rfl (decide_eq_true rfl) (by decide) (by decide) kt) ?_
      refine Run.x_iconst (q := 194) X119 hx (hb hby at_193) (z := (1 : Int32)) rfl rfl ?_
      refine Run.x_goto (q := 198) X119 hx (hb hby at_194) (by decide) (by decide) ?_
      refine Run.retN X119 hx hlk e119 (t := .boolean) hret (by simp) (z' := (1 : Int32)) (by decide) (hb hby at_198) (by decide) (by decide) ?_
      exact ⟨rfl, N117⟩
    ·skip
     show Run p e below s _ _ _ (T4.setTop (mkF m 96 #[.val (.int p1), .val (.int p2), .val (.int p3), .val (.int p4), .val (.int p5), .val (.int p6), .val (.int k0), .val (.int k1), .val (.int k2), .val (.ref b1), .val (.int 3), .val (.int 2), z12, .val (.int wd), .unset, .unset, .unset, .unset] []))
     refine Run.x_iload (q := 98) X4 hx (hb hby at_96) rfl rfl ?_
     refine Run.x_iload (q := 100) X4 hx (hb hby at_98) rfl rfl ?_
     refine Run.x_iload (q := 102) X4 hx (hb hby at_100) rfl rfl ?_
     refine Run.x_iload (q := 104) X4 hx (hb hby at_102) rfl rfl ?_
     replace S_COMPACT_STRINGS := (((S_COMPACT_STRINGS.ext E1).wr W2).wr W3).wr W4
     replace S__assertionsDisabled := (((S__assertionsDisabled.ext E1).wr W2).wr W3).wr W4
     replace S_HI_BYTE_SHIFT := (((S_HI_BYTE_SHIFT.ext E1).wr W2).wr W3).wr W4
     replace S_LO_BYTE_SHIFT := (((S_LO_BYTE_SHIFT.ext E1).wr W2).wr W3).wr W4
     refine Run.callS X4 hx hZ e4 (y := (⟨"com/example/sayso/sayso/TextCursorAtPinLaw", "make", "(ICCC)Ljava/lang/String;"⟩ : MethodName)) hown (wm2 hw) (wm3 hw) (wm4 hw) (wm5 hw) (by decide) (argsL := [(.int 3), (.int k0), (.int k1), (.int k2)]) (rest := []) (c_mk_3_1 l Z a0 hw k0 k1 k2 h4 n0 Z4 cp S_COMPACT_STRINGS S__assertionsDisabled S_HI_BYTE_SHIFT S_LO_BYTE_SHIFT hcp hA rk0 rk1 rk2) pd_17 rfl (by rw [hml]; rfl) (W := 0) rfl (by decide) (by decide) (by decide) (by decide) (hb hby at_104) rfl ?_
     intro T120 v120 L120 X120 q120
     obtain ⟨sb120, bts120, rfl, M120, K120, sz120, Es120, Fv120, Fc120, Ab120⟩ := q120
     have N120 := Fr.app N4 M120
     show Run p e below s _ _ _ (T120.setTop (mkF m 107 #[.val (.int p1), .val (.int p2), .val (.int p3), .val (.int p4), .val (.int p5), .val (.int p6), .val (.int k0), .val (.int k1), .val (.int k2), .val (.ref b1), .val (.int 3), .val (.int 2), z12, .val (.int wd), .unset, .unset, .unset, .unset] [(.ref sb120)]))
     have ne_b1_sb120 : b1 ≠ sb120 := Nat.ne_of_lt (Nat.lt_of_lt_of_le A_b1.lt sz120)
     replace S_COMPACT_STRINGS := Sta_keep S_COMPACT_STRINGS K120 all0
     replace S_SIOOBE_FORMATTER := (((S_SIOOBE_FORMATTER.ext E1).wr W2).wr W3).wr W4
     replace S_SIOOBE_FORMATTER := Sta_keep S_SIOOBE_FORMATTER K120 all0
     replace S__assertionsDisabled := Sta_keep S__assertionsDisabled K120 all0
     replace S_HI_BYTE_SHIFT := Sta_keep S_HI_BYTE_SHIFT K120 all0
     replace S_LO_BYTE_SHIFT := Sta_keep S_LO_BYTE_SHIFT K120 all0
     have Z120 : n0 ≤ T120.heap.size := Nat.le_trans Z4 K120.1
     replace KP := KP.trans K120 all0
     refine Run.x_astore (q := 109) X120 hx #[.val (.int p1), .val (.int p2), .val (.int p3), .val (.int p4), .val (.int p5), .val (.int p6), .val (.int k0), .val (.int k1), .val (.int k2), .val (.ref b1), .val (.int 3), .val (.int 2), z12, .val (.int wd), .val (.ref sb120), .unset, .unset, .unset] (hb hby at_107) rfl rfl rfl ?_
     obtain ⟨T121, h121, X121, e121, E121, A121, D121, -, st121⟩ := newO X120 hx hZ hown (wm35 hw) (wm36 hw) (wm37 hw) rfl (g := (mkF m 109 #[.val (.int p1), .val (.int p2), .val (.int p3), .val (.int p4), .val (.int p5), .val (.int p6), .val (.int k0), .val (.int k1), .val (.int k2), .val (.ref b1), .val (.int 3), .val (.int 2), z12, .val (.int wd), .val (.ref sb120), .unset, .unset, .unset] [])) rfl (hb hby at_109) (by decide) (by decide)
     obtain ⟨b121, gg121⟩ : ∃ z, z = T120.heap.size := ⟨_, rfl⟩
     rw [← gg121] at A121 D121 st121
     have g_b121 : n0 ≤ b121 := Nat.le_trans Z120 (Nat.le_of_eq gg121.symm)
     replace A_b1 := A_b1.keep K120 nin0
     have ne_b1_b121 : b1 ≠ b121 := Nat.ne_of_lt (Nat.lt_of_lt_of_le A_b1.lt (Nat.le_of_eq gg121.symm))
     have ne_sb120_b121 : sb120 ≠ b121 := Nat.ne_of_lt (Nat.lt_of_lt_of_le Es120.lt (Nat.le_of_eq gg121.symm))
     have ne_bts120_b121 : bts120 ≠ b121 := Nat.ne_of_lt (Nat.lt_of_lt_of_le Ab120.lt (Nat.le_of_eq gg121.symm))
     have sz_b121 : h0.size ≤ b121 := Nat.le_trans KP.1 (Nat.le_of_eq gg121.symm)
     have Z121 : n0 ≤ h121.size := Nat.le_trans Z120 E121.1
     replace KP := KP.ext E121
     have E_b121 := A121
     have F_b121_text : Fld Z h121 b121 "com/example/sayso/sayso/TextCursor" "text" "Ljava/lang/String;" .null := D121 (Or.inr (wm43 hw)) (ty := (.object "java/lang/String")) (by decide)
     have F_b121_position : Fld Z h121 b121 "com/example/sayso/sayso/TextCursor" "position" "I" (.int 0) := D121 (Or.inl (wm45 hw)) (ty := .int) (by decide)
     refine Run.st st121 ?_
     show Run p e below s _ _ _ (T121.setTop (mkF m 112 #[.val (.int p1), .val (.int p2), .val (.int p3), .val (.int p4), .val (.int p5), .val (.int p6), .val (.int k0), .val (.int k1), .val (.int k2), .val (.ref b1), .val (.int 3), .val (.int 2), z12, .val (.int wd), .val (.ref sb120), .unset, .unset, .unset] [(.ref b121)]))
     refine Run.x_dup (q := 113) X121 hx (hb hby at_112) rfl rfl ?_
     refine Run.x_aload (q := 115) X121 hx (hb hby at_113) rfl rfl rfl ?_
     refine Run.callC X121 hx hZ e121 (y := (⟨"com/example/sayso/sayso/TextCursor", "<init>", "(Ljava/lang/String;)V"⟩ : MethodName)) hown rfl (wm38 hw) (wm39 hw) (wm37 hw) (wm40 hw) (by decide) (a := b121) (argsL := [(.ref sb120)]) (rest := [(.ref b121)]) (c_tci l Z a0 hw b121 sb120 h121 n0 Z121 E_b121 F_b121_text F_b121_position g_b121) pd_18 rfl (by rw [hml]; rfl) (W := 1) rfl (by decide) (by decide) (by decide) (by decide) (hb hby at_115) rfl ?_
     intro T122 v122 L122 X122 q122
     obtain ⟨rfl, M122, K122, E122, F122_0, F122_1⟩ := q122
     have N122 := Fr.app N120 M122
     show Run p e below s _ _ _ (T122.setTop (mkF m 118 #[.val (.int p1), .val (.int p2), .val (.int p3), .val (.int p4), .val (.int p5), .val (.int p6), .val (.int k0), .val (.int k1), .val (.int k2), .val (.ref b1), .val (.int 3), .val (.int 2), z12, .val (.int wd), .val (.ref sb120), .unset, .unset, .unset] [(.ref b121)]))
     replace S_COMPACT_STRINGS := S_COMPACT_STRINGS.ext E121
     replace S_COMPACT_STRINGS := Sta_keep S_COMPACT_STRINGS K122 (allS (Exa_ns E_b121) all0)
     replace S_SIOOBE_FORMATTER := S_SIOOBE_FORMATTER.ext E121
     replace S_SIOOBE_FORMATTER := Sta_keep S_SIOOBE_FORMATTER K122 (allS (Exa_ns E_b121) all0)
     replace S__assertionsDisabled := S__assertionsDisabled.ext E121
     replace S__assertionsDisabled := Sta_keep S__assertionsDisabled K122 (allS (Exa_ns E_b121) all0)
     replace S_HI_BYTE_SHIFT := S_HI_BYTE_SHIFT.ext E121
     replace S_HI_BYTE_SHIFT := Sta_keep S_HI_BYTE_SHIFT K122 (allS (Exa_ns E_b121) all0)
     replace S_LO_BYTE_SHIFT := S_LO_BYTE_SHIFT.ext E121
     replace S_LO_BYTE_SHIFT := Sta_keep S_LO_BYTE_SHIFT K122 (allS (Exa_ns E_b121) all0)
     have Z122 : n0 ≤ T122.heap.size := Nat.le_trans Z121 K122.1
     replace KP := KP.trans K122 (allS (Or.inr sz_b121) all0)
     refine Run.x_astore (q := 120) X122 hx #[.val (.int p1), .val (.int p2), .val (.int p3), .val (.int p4), .val (.int p5), .val (.int p6), .val (.int k0), .val (.int k1), .val (.int k2), .val (.ref b1), .val (.int 3), .val (.int 2), z12, .val (.int wd), .val (.ref sb120), .val (.ref b121), .unset, .unset] (hb hby at_118) rfl rfl rfl ?_
     refine Run.x_aload (q := 122) X122 hx (hb hby at_120) rfl rfl rfl ?_
     refine Run.x_iload (q := 124) X122 hx (hb hby at_122) rfl rfl ?_
     replace E_b121 := E_b121.keep K122
     obtain ⟨T123, h123, X123, e123, W123, st123⟩ := putF X122 hx hZ hown (host := "") (Or.inl (wm44 hw)) Via.refl rfl F122_1 E_b121 (Or.inl (wm45 hw)) (wm36 hw) (ty := .int) (by decide) rfl rfl (g := (mkF m 124 #[.val (.int p1), .val (.int p2), .val (.int p3), .val (.int p4), .val (.int p5), .val (.int p6), .val (.int k0), .val (.int k1), .val (.int k2), .val (.ref b1), .val (.int 3), .val (.int 2), z12, .val (.int wd), .val (.ref sb120), .val (.ref b121), .unset, .unset] [(.int 2), (.ref b121)])) rfl rfl (hb hby at_124)
     replace F122_1 := F122_1.same W123
     have Z123 : n0 ≤ h123.size := Nat.le_trans Z122 (Nat.le_of_eq W123.size.symm)
     replace KP := KP.wr W123 (Or.inr sz_b121)
     have N123 := Fr.snoc X123 N122 g_b121
     refine Run.st st123 ?_
     show Run p e below s _ _ _ (T123.setTop (mkF m 127 #[.val (.int p1), .val (.int p2), .val (.int p3), .val (.int p4), .val (.int p5), .val (.int p6), .val (.int k0), .val (.int k1), .val (.int k2), .val (.ref b1), .val (.int 3), .val (.int 2), z12, .val (.int wd), .val (.ref sb120), .val (.ref b121), .unset, .unset] []))
     refine Run.x_iload (q := 129) X123 hx (hb hby at_127) rfl rfl ?_
     refine Run.x_iload (q := 131) X123 hx (hb hby at_129) rfl rfl ?_
     refine Run.x_icmpNo (q := 134) X123 hx (hb hby at_131) (tlt (by decide : (2 : Int32) < (3 : Int32))).2.1 rfl ?_
     refine Run.x_aload (q := 136) X123 hx (hb hby at_134) rfl rfl rfl ?_
     refine Run.x_iload (q := 138) X123 hx (hb hby at_136) rfl rfl ?_
     replace A_b1 := ((A_b1.ext E121).keep K122 (ninS ne_b1_b121 nin0)).other W123 ne_b1_b121
     refine Run.y_ldC (q := 139) X123 hx hZ e123 A_b1 (i := 2) (v := (.int k2)) (by decide) rfl (hb hby at_138) rfl ?_
     refine Run.x_iload (q := 141) X123 hx (hb hby at_139) rfl rfl ?_
     by_cases hc141 : k2 = wd
     ·skip
      refine Run.x_icmpNo (q := 144) X123 hx (hb hby at_141) (teq hc141).2 rfl ?_
      refine Run.x_iconst (q := 145) X123 hx (hb hby at_144) (z := (1 : Int32)) rfl rfl ?_
      refine Run.x_goto (q := 149) X123 hx (hb hby at_145) (by decide) (by decide) ?_
      refine Run.x_istore (q := 151) X123 hx #[.val (.int p1), .val (.int p2), .val (.int p3), .val (.int p4), .val (.int p5), .val (.int p6), .val (.int k0), .val (.int k1), .val (.int k2), .val (.ref b1), .val (.int 3), .val (.int 2), z12, .val (.int wd), .val (.ref sb120), .val (.ref b121), .val (.int 1), .unset] (hb hby at_149) rfl rfl ?_
      refine Run.x_goto (q := 157) X123 hx (hb hby at_151) (by decide) (by decide) ?_
      refine Run.x_aload (q := 159) X123 hx (hb hby at_157) rfl rfl rfl ?_
      refine Run.x_iload (q := 161) X123 hx (hb hby at_159) rfl rfl ?_
      replace E_b121 := E_b121.wr W123
      replace F122_0 := F122_0.other W123 (Or.inr (slot_ne (Or.inr (wm43 hw)) (Or.inl (wm45 hw)) (by decide) (t := (.object "java/lang/String")) (t' := .int) (by decide) (by decide)))
      replace Es120 := ((Es120.ext E121).keep K122).wr W123
      replace Fc120 := ((Fc120.ext E121).keep K122 (ninS ne_sb120_b121 nin0)).other W123 (Or.inl ne_sb120_b121)
      replace Fv120 := ((Fv120.ext E121).keep K122 (ninS ne_sb120_b121 nin0)).other W123 (Or.inl ne_sb120_b121)
      replace Ab120 := ((Ab120.ext E121).keep K122 (ninS ne_bts120_b121 nin0)).other W123 ne_bts120_b121
      replace S_COMPACT_STRINGS := S_COMPACT_STRINGS.wr W123
      replace S_SIOOBE_FORMATTER := S_SIOOBE_FORMATTER.wr W123
      replace S__assertionsDisabled := S__assertionsDisabled.wr W123
      replace S_HI_BYTE_SHIFT := S_HI_BYTE_SHIFT.wr W123
      replace S_LO_BYTE_SHIFT := S_LO_BYTE_SHIFT.wr W123
      refine Run.callVI (q := 164) X123 hx hZ e123 (y := (⟨"com/example/sayso/sayso/TextCursor", "at", "(C)Z"⟩ : MethodName)) (z := (⟨"com/example/sayso/sayso/TextCursor", "at", "(C)Z"⟩ : MethodName)) hown (wm46 hw) (wm47 hw) (notFace_of_selects (args := #[]) (mvT hZ (wm49 hw))) (wm49 hw) (wm48 hw) (wm37 hw) (wm50 hw) (by decide) (a := b121) E_b121 (argsL := [(.int wd)]) (rest := []) (c_atl1 l Z a0 hw b121 wd h123 n0 Z123 (2 : Int32) (3 : Int32) sb120 cp bts120 [(.int (k0 >>> ((0 : Int32) &&& 31)).toInt8.toInt32), (.int (k0 >>> ((8 : Int32) &&& 31)).toInt8.toInt32), (.int (k1 >>> ((0 : Int32) &&& 31)).toInt8.toInt32), (.int (k1 >>> ((8 : Int32) &&& 31)).toInt8.toInt32), (.int (k2 >>> ((0 : Int32) &&& 31)).toInt8.toInt32), (.int (k2 >>> ((8 : Int32) &&& 31)).toInt8.toInt32)] (6 : Int32) sf (3 : Int32) 4 (k2 >>> ((0 : Int32) &&& 31)).toInt8.toInt32 (k2 >>> ((8 : Int32) &&& 31)).toInt8.toInt32 k2 E_b121 F122_1 F122_0 Es120 Fc120 Fv120 Ab120 S_COMPACT_STRINGS S_SIOOBE_FORMATTER S__assertionsDisabled S_HI_BYTE_SHIFT S_LO_BYTE_SHIFT hcp (by decide) (by decide) hsf rfl (by decide) (by decide) (by decide) (by decide) (by decide) rfl rfl (own_utf rk2) (own_nr rk2)) pd_19 rfl (by rw [hml]; rfl) (W := 0) rfl (by decide) (by decide) (by decide) (by decide) (hb hby at_161) rfl rfl fun T124 L124 X124 M124 e124 => ?_
      have N124 := Fr.app N123 M124
      refine Run.x_istore (q := 166) X124 hx #[.val (.int p1), .val (.int p2), .val (.int p3), .val (.int p4), .val (.int p5), .val (.int p6), .val (.int k0), .val (.int k1), .val (.int k2), .val (.ref b1), .val (.int 3), .val (.int 2), z12, .val (.int wd), .val (.ref sb120), .val (.ref b121), .val (.int 1), .val (.int (own_b (k2 = wd)))] (hb hby at_164) rfl rfl ?_
      refine Run.x_iload (q := 168) X124 hx (hb hby at_166) rfl rfl ?_
      refine Run.x_iload (q := 170) X124 hx (hb hby at_168) rfl rfl ?_
      refine Run.x_icmpNo (q := 173) X124 hx (hb hby at_170) (teq (own_b1 hc141)).2 rfl ?_
      refine Run.x_aload (q := 175) X124 hx (hb hby at_173) rfl rfl rfl ?_
      refine Run.z_getF (q := 178) X124 hx hZ e124 hown (wm44 hw) F122_1 (hb hby at_175) rfl fun T125 X125 e125 => ?_
      refine Run.x_iload (q := 180) X125 hx (hb hby at_178) rfl rfl ?_
      refine Run.x_icmpNo (q := 183) X125 hx (hb hby at_180) (teq (by decide : (2 : Int32) = (2 : Int32))).2 rfl ?_
      refine Run.x_aload (q := 185) X125 hx (hb hby at_183) rfl rfl rfl ?_
      refine Run.z_getF (q := 188) X125 hx hZ e125 hown (wm84 hw) F122_0 (hb hby at_185) rfl fun T126 X126 e126 => ?_
      refine Run.x_aload (q := 190) X126 hx (hb hby at_188) rfl rfl rfl ?_
      refine Run.st (B := T126.setTop (mkF m 193 #[.val (.int p1), .val (.int p2), .val (.int p3), .val (.int p4), .val (.int p5), .val (.int p6), .val (.int k0), .val (.int k1), .val (.int k2), .val (.ref b1), .val (.int 3), .val (.int 2), z12, .val (.int wd), .val (.ref sb120), .val (.ref b121), .val (.int 1), .val (.int (own_b (k2 = wd)))] [])) (fun t kt => Jvm.RoadKit.acmp (g := (mkF m 190 #[.val (.int p1), .val (.int p2), .val (.int p3), .val (.int p4), .val (.int p5), .val (.int p6), .val (.int k0), .val (.int k1), .val (.int k2), .val (.ref b1), .val (.int 3), .val (.int 2), z12, .val (.int wd), .val (.ref sb120), .val (.ref b121), .val (.int 1), .val (.int (own_b (k2 = wd)))] [(.ref sb120), (.ref sb120)])) X126 hx rfl rfl rfl (pc0 := 190) (pc' := 193) (same := true) rfl (hb hby at_190) rfl (decide_eq_true rfl) (by decide) (by decide) kt) ?_
      refine Run.x_iconst (q := 194) X126 hx (hb hby at_193) (z := (1 : Int32)) rfl rfl ?_
      refine Run.x_goto (q := 198) X126 hx (hb hby at_194) (by decide) (by decide) ?_
      refine Run.retN X126 hx hlk e126 (t := .boolean) hret (by simp) (z' := (1 : Int32)) (by decide) (hb hby at_198) (by decide) (by decide) ?_
      exact ⟨rfl, N124⟩
     ·skip
      refine Run.x_icmpYes (q := 148) X123 hx (hb hby at_141) (feq hc141).2 (by decide) (by decide) ?_
      refine Run.x_iconst (q := 149) X123 hx (hb hby at_148) (z := (0 : Int32)) rfl rfl ?_
      refine Run.x_istore (q := 151) X123 hx #[.val (.int p1), .val (.int p2), .val (.int p3), .val (.int p4), .val (.int p5), .val (.int p6), .val (.int k0), .val (.int k1), .val (.int k2), .val (.ref b1), .val (.int 3), .val (.int 2), z12, .val (.int wd), .val (.ref sb120), .val (.ref b121), .val (.int 0), .unset] (hb hby at_149) rfl rfl ?_
      refine Run.x_goto (q := 157) X123 hx (hb hby at_151) (by decide) (by decide) ?_
      refine Run.x_aload (q := 159) X123 hx (hb hby at_157) rfl rfl rfl ?_
      refine Run.x_iload (q := 161) X123 hx (hb hby at_159) rfl rfl ?_
      replace E_b121 := E_b121.wr W123
      replace F122_0 := F122_0.other W123 (Or.inr (slot_ne (Or.inr (wm43 hw)) (Or.inl (wm45 hw)) (by decide) (t := (.object "java/lang/String")) (t' := .int) (by decide) (by decide)))
      replace Es120 := ((Es120.ext E121).keep K122).wr W123
      replace Fc120 := ((Fc120.ext E121).keep K122 (ninS ne_sb120_b121 nin0)).other W123 (Or.inl ne_sb120_b121)
      replace Fv120 := ((Fv120.ext E121).keep K122 (ninS ne_sb120_b121 nin0)).other W123 (Or.inl ne_sb120_b121)
      replace Ab120 := ((Ab120.ext E121).keep K122 (ninS ne_bts120_b121 nin0)).other W123 ne_bts120_b121
      replace S_COMPACT_STRINGS := S_COMPACT_STRINGS.wr W123
      replace S_SIOOBE_FORMATTER := S_SIOOBE_FORMATTER.wr W123
      replace S__assertionsDisabled := S__assertionsDisabled.wr W123
      replace S_HI_BYTE_SHIFT := S_HI_BYTE_SHIFT.wr W123
      replace S_LO_BYTE_SHIFT := S_LO_BYTE_SHIFT.wr W123
      refine Run.callVI (q := 164) X123 hx hZ e123 (y := (⟨"com/example/sayso/sayso/TextCursor", "at", "(C)Z"⟩ : MethodName)) (z := (⟨"com/example/sayso/sayso/TextCursor", "at", "(C)Z"⟩ : MethodName)) hown (wm46 hw) (wm47 hw) (notFace_of_selects (args := #[]) (mvT hZ (wm49 hw))) (wm49 hw) (wm48 hw) (wm37 hw) (wm50 hw) (by decide) (a := b121) E_b121 (argsL := [(.int wd)]) (rest := []) (c_atl1 l Z a0 hw b121 wd h123 n0 Z123 (2 : Int32) (3 : Int32) sb120 cp bts120 [(.int (k0 >>> ((0 : Int32) &&& 31)).toInt8.toInt32), (.int (k0 >>> ((8 : Int32) &&& 31)).toInt8.toInt32), (.int (k1 >>> ((0 : Int32) &&& 31)).toInt8.toInt32), (.int (k1 >>> ((8 : Int32) &&& 31)).toInt8.toInt32), (.int (k2 >>> ((0 : Int32) &&& 31)).toInt8.toInt32), (.int (k2 >>> ((8 : Int32) &&& 31)).toInt8.toInt32)] (6 : Int32) sf (3 : Int32) 4 (k2 >>> ((0 : Int32) &&& 31)).toInt8.toInt32 (k2 >>> ((8 : Int32) &&& 31)).toInt8.toInt32 k2 E_b121 F122_1 F122_0 Es120 Fc120 Fv120 Ab120 S_COMPACT_STRINGS S_SIOOBE_FORMATTER S__assertionsDisabled S_HI_BYTE_SHIFT S_LO_BYTE_SHIFT hcp (by decide) (by decide) hsf rfl (by decide) (by decide) (by decide) (by decide) (by decide) rfl rfl (own_utf rk2) (own_nr rk2)) pd_19 rfl (by rw [hml]; rfl) (W := 0) rfl (by decide) (by decide) (by decide) (by decide) (hb hby at_161) rfl rfl fun T127 L127 X127 M127 e127 => ?_
      have N127 := Fr.app N123 M127
      refine Run.x_istore (q := 166) X127 hx #[.val (.int p1), .val (.int p2), .val (.int p3), .val (.int p4), .val (.int p5), .val (.int p6), .val (.int k0), .val (.int k1), .val (.int k2), .val (.ref b1), .val (.int 3), .val (.int 2), z12, .val (.int wd), .val (.ref sb120), .val (.ref b121), .val (.int 0), .val (.int (own_b (k2 = wd)))] (hb hby at_164) rfl rfl ?_
      refine Run.x_iload (q := 168) X127 hx (hb hby at_166) rfl rfl ?_
      refine Run.x_iload (q := 170) X127 hx (hb hby at_168) rfl rfl ?_
      refine Run.x_icmpNo (q := 173) X127 hx (hb hby at_170) (teq (own_b0 hc141)).2 rfl ?_
      refine Run.x_aload (q := 175) X127 hx (hb hby at_173) rfl rfl rfl ?_
      refine Run.z_getF (q := 178) X127 hx hZ e127 hown (wm44 hw) F122_1 (hb hby at_175) rfl fun T128 X128 e128 => ?_
      refine Run.x_iload (q := 180) X128 hx (hb hby at_178) rfl rfl ?_
      refine Run.x_icmpNo (q := 183) X128 hx (hb hby at_180) (teq (by decide : (2 : Int32) = (2 : Int32))).2 rfl ?_
      refine Run.x_aload (q := 185) X128 hx (hb hby at_183) rfl rfl rfl ?_
      refine Run.z_getF (q := 188) X128 hx hZ e128 hown (wm84 hw) F122_0 (hb hby at_185) rfl fun T129 X129 e129 => ?_
      refine Run.x_aload (q := 190) X129 hx (hb hby at_188) rfl rfl rfl ?_
      refine Run.st (B := T129.setTop (mkF m 193 #[.val (.int p1), .val (.int p2), .val (.int p3), .val (.int p4), .val (.int p5), .val (.int p6), .val (.int k0), .val (.int k1), .val (.int k2), .val (.ref b1), .val (.int 3), .val (.int 2), z12, .val (.int wd), .val (.ref sb120), .val (.ref b121), .val (.int 0), .val (.int (own_b (k2 = wd)))] [])) (fun t kt => Jvm.RoadKit.acmp (g := (mkF m 190 #[.val (.int p1), .val (.int p2), .val (.int p3), .val (.int p4), .val (.int p5), .val (.int p6), .val (.int k0), .val (.int k1), .val (.int k2), .val (.ref b1), .val (.int 3), .val (.int 2), z12, .val (.int wd), .val (.ref sb120), .val (.ref b121), .val (.int 0), .val (.int (own_b (k2 = wd)))] [(.ref sb120), (.ref sb120)])) X129 hx rfl rfl rfl (pc0 := 190) (pc' := 193) (same := true) rfl (hb hby at_190) rfl (decide_eq_true rfl) (by decide) (by decide) kt) ?_
      refine Run.x_iconst (q := 194) X129 hx (hb hby at_193) (z := (1 : Int32)) rfl rfl ?_
      refine Run.x_goto (q := 198) X129 hx (hb hby at_194) (by decide) (by decide) ?_
      refine Run.retN X129 hx hlk e129 (t := .boolean) hret (by simp) (z' := (1 : Int32)) (by decide) (hb hby at_198) (by decide) (by decide) ?_
      exact ⟨rfl, N127⟩
    ·skip
     show Run p e below s _ _ _ (T4.setTop (mkF m 96 #[.val (.int p1), .val (.int p2), .val (.int p3), .val (.int p4), .val (.int p5), .val (.int p6), .val (.int k0), .val (.int k1), .val (.int k2), .val (.ref b1), .val (.int 3), .val (.int 3), z12, .val (.int wd), .unset, .unset, .unset, .unset] []))
     refine Run.x_iload (q := 98) X4 hx (hb hby at_96) rfl rfl ?_
     refine Run.x_iload (q := 100) X4 hx (hb hby at_98) rfl rfl ?_
     refine Run.x_iload (q := 102) X4 hx (hb hby at_100) rfl rfl ?_
     refine Run.x_iload (q := 104) X4 hx (hb hby at_102) rfl rfl ?_
     replace S_COMPACT_STRINGS := (((S_COMPACT_STRINGS.ext E1).wr W2).wr W3).wr W4
     replace S__assertionsDisabled := (((S__assertionsDisabled.ext E1).wr W2).wr W3).wr W4
     replace S_HI_BYTE_SHIFT := (((S_HI_BYTE_SHIFT.ext E1).wr W2).wr W3).wr W4
     replace S_LO_BYTE_SHIFT := (((S_LO_BYTE_SHIFT.ext E1).wr W2).wr W3).wr W4
     refine Run.callS X4 hx hZ e4 (y := (⟨"com/example/sayso/sayso/TextCursorAtPinLaw", "make", "(ICCC)Ljava/lang/String;"⟩ : MethodName)) hown (wm2 hw) (wm3 hw) (wm4 hw) (wm5 hw) (by decide) (argsL := [(.int 3), (.int k0), (.int k1), (.int k2)]) (rest := []) (c_mk_3_1 l Z a0 hw k0 k1 k2 h4 n0 Z4 cp S_COMPACT_STRINGS S__assertionsDisabled S_HI_BYTE_SHIFT S_LO_BYTE_SHIFT hcp hA rk0 rk1 rk2) pd_17 rfl (by rw [hml]; rfl) (W := 0) rfl (by decide) (by decide) (by decide) (by decide) (hb hby at_104) rfl ?_
     intro T130 v130 L130 X130 q130
     obtain ⟨sb130, bts130, rfl, M130, K130, sz130, Es130, Fv130, Fc130, Ab130⟩ := q130
     have N130 := Fr.app N4 M130
     show Run p e below s _ _ _ (T130.setTop (mkF m 107 #[.val (.int p1), .val (.int p2), .val (.int p3), .val (.int p4), .val (.int p5), .val (.int p6), .val (.int k0), .val (.int k1), .val (.int k2), .val (.ref b1), .val (.int 3), .val (.int 3), z12, .val (.int wd), .unset, .unset, .unset, .unset] [(.ref sb130)]))
     have ne_b1_sb130 : b1 ≠ sb130 := Nat.ne_of_lt (Nat.lt_of_lt_of_le A_b1.lt sz130)
     replace S_COMPACT_STRINGS := Sta_keep S_COMPACT_STRINGS K130 all0
     replace S_SIOOBE_FORMATTER := (((S_SIOOBE_FORMATTER.ext E1).wr W2).wr W3).wr W4
     replace S_SIOOBE_FORMATTER := Sta_keep S_SIOOBE_FORMATTER K130 all0
     replace S__assertionsDisabled := Sta_keep S__assertionsDisabled K130 all0
     replace S_HI_BYTE_SHIFT := Sta_keep S_HI_BYTE_SHIFT K130 all0
     replace S_LO_BYTE_SHIFT := Sta_keep S_LO_BYTE_SHIFT K130 all0
     have Z130 : n0 ≤ T130.heap.size := Nat.le_trans Z4 K130.1
     replace KP := KP.trans K130 all0
     refine Run.x_astore (q := 109) X130 hx #[.val (.int p1), .val (.int p2), .val (.int p3), .val (.int p4), .val (.int p5), .val (.int p6), .val (.int k0), .val (.int k1), .val (.int k2), .val (.ref b1), .val (.int 3), .val (.int 3), z12, .val (.int wd), .val (.ref sb130), .unset, .unset, .unset] (hb hby at_107) rfl rfl rfl ?_
     obtain ⟨T131, h131, X131, e131, E131, A131, D131, -, st131⟩ := newO X130 hx hZ hown (wm35 hw) (wm36 hw) (wm37 hw) rfl (g := (mkF m 109 #[.val (.int p1), .val (.int p2), .val (.int p3), .val (.int p4), .val (.int p5), .val (.int p6), .val (.int k0), .val (.int k1), .val (.int k2), .val (.ref b1), .val (.int 3), .val (.int 3), z12, .val (.int wd), .val (.ref sb130), .unset, .unset, .unset] [])) rfl (hb hby at_109) (by decide) (by decide)
     obtain ⟨b131, gg131⟩ : ∃ z, z = T130.heap.size := ⟨_, rfl⟩
     rw [← gg131] at A131 D131 st131
     have g_b131 : n0 ≤ b131 := Nat.le_trans Z130 (Nat.le_of_eq gg131.symm)
     replace A_b1 := A_b1.keep K130 nin0
     have ne_b1_b131 : b1 ≠ b131 := Nat.ne_of_lt (Nat.lt_of_lt_of_le A_b1.lt (Nat.le_of_eq gg131.symm))
     have ne_sb130_b131 : sb130 ≠ b131 := Nat.ne_of_lt (Nat.lt_of_lt_of_le Es130.lt (Nat.le_of_eq gg131.symm))
     have ne_bts130_b131 : bts130 ≠ b131 := Nat.ne_of_lt (Nat.lt_of_lt_of_le Ab130.lt (Nat.le_of_eq gg131.symm))
     have sz_b131 : h0.size ≤ b131 := Nat.le_trans KP.1 (Nat.le_of_eq gg131.symm)
     have Z131 : n0 ≤ h131.size := Nat.le_trans Z130 E131.1
     replace KP := KP.ext E131
     have E_b131 := A131
     have F_b131_text : Fld Z h131 b131 "com/example/sayso/sayso/TextCursor" "text" "Ljava/lang/String;" .null := D131 (Or.inr (wm43 hw)) (ty := (.object "java/lang/String")) (by decide)
     have F_b131_position : Fld Z h131 b131 "com/example/sayso/sayso/TextCursor" "position" "I" (.int 0) := D131 (Or.inl (wm45 hw)) (ty := .int) (by decide)
     refine Run.st st131 ?_
     show Run p e below s _ _ _ (T131.setTop (mkF m 112 #[.val (.int p1), .val (.int p2), .val (.int p3), .val (.int p4), .val (.int p5), .val (.int p6), .val (.int k0), .val (.int k1), .val (.int k2), .val (.ref b1), .val (.int 3), .val (.int 3), z12, .val (.int wd), .val (.ref sb130), .unset, .unset, .unset] [(.ref b131)]))
     refine Run.x_dup (q := 113) X131 hx (hb hby at_112) rfl rfl ?_
     refine Run.x_aload (q := 115) X131 hx (hb hby at_113) rfl rfl rfl ?_
     refine Run.callC X131 hx hZ e131 (y := (⟨"com/example/sayso/sayso/TextCursor", "<init>", "(Ljava/lang/String;)V"⟩ : MethodName)) hown rfl (wm38 hw) (wm39 hw) (wm37 hw) (wm40 hw) (by decide) (a := b131) (argsL := [(.ref sb130)]) (rest := [(.ref b131)]) (c_tci l Z a0 hw b131 sb130 h131 n0 Z131 E_b131 F_b131_text F_b131_position g_b131) pd_18 rfl (by rw [hml]; rfl) (W := 1) rfl (by decide) (by decide) (by decide) (by decide) (hb hby at_115) rfl ?_
     intro T132 v132 L132 X132 q132
     obtain ⟨rfl, M132, K132, E132, F132_0, F132_1⟩ := q132
     have N132 := Fr.app N130 M132
     show Run p e below s _ _ _ (T132.setTop (mkF m 118 #[.val (.int p1), .val (.int p2), .val (.int p3), .val (.int p4), .val (.int p5), .val (.int p6), .val (.int k0), .val (.int k1), .val (.int k2), .val (.ref b1), .val (.int 3), .val (.int 3), z12, .val (.int wd), .val (.ref sb130), .unset, .unset, .unset] [(.ref b131)]))
     replace S_COMPACT_STRINGS := S_COMPACT_STRINGS.ext E131
     replace S_COMPACT_STRINGS := Sta_keep S_COMPACT_STRINGS K132 (allS (Exa_ns E_b131) all0)
     replace S_SIOOBE_FORMATTER := S_SIOOBE_FORMATTER.ext E131
     replace S_SIOOBE_FORMATTER := Sta_keep S_SIOOBE_FORMATTER K132 (allS (Exa_ns E_b131) all0)
     replace S__assertionsDisabled := S__assertionsDisabled.ext E131
     replace S__assertionsDisabled := Sta_keep S__assertionsDisabled K132 (allS (Exa_ns E_b131) all0)
     replace S_HI_BYTE_SHIFT := S_HI_BYTE_SHIFT.ext E131
     replace S_HI_BYTE_SHIFT := Sta_keep S_HI_BYTE_SHIFT K132 (allS (Exa_ns E_b131) all0)
     replace S_LO_BYTE_SHIFT := S_LO_BYTE_SHIFT.ext E131
     replace S_LO_BYTE_SHIFT := Sta_keep S_LO_BYTE_SHIFT K132 (allS (Exa_ns E_b131) all0)
     have Z132 : n0 ≤ T132.heap.size := Nat.le_trans Z131 K132.1
     replace KP := KP.trans K132 (allS (Or.inr sz_b131) all0)
     refine Run.x_astore (q := 120) X132 hx #[.val (.int p1), .val (.int p2), .val (.int p3), .val (.int p4), .val (.int p5), .val (.int p6), .val (.int k0), .val (.int k1), .val (.int k2), .val (.ref b1), .val (.int 3), .val (.int 3), z12, .val (.int wd), .val (.ref sb130), .val (.ref b131), .unset, .unset] (hb hby at_118) rfl rfl rfl ?_
     refine Run.x_aload (q := 122) X132 hx (hb hby at_120) rfl rfl rfl ?_
     refine Run.x_iload (q := 124) X132 hx (hb hby at_122) rfl rfl ?_
     replace E_b131 := E_b131.keep K132
     obtain ⟨T133, h133, X133, e133, W133, st133⟩ := putF X132 hx hZ hown (host := "") (Or.inl (wm44 hw)) Via.refl rfl F132_1 E_b131 (Or.inl (wm45 hw)) (wm36 hw) (ty := .int) (by decide) rfl rfl (g := (mkF m 124 #[.val (.int p1), .val (.int p2), .val (.int p3), .val (.int p4), .val (.int p5), .val (.int p6), .val (.int k0), .val (.int k1), .val (.int k2), .val (.ref b1), .val (.int 3), .val (.int 3), z12, .val (.int wd), .val (.ref sb130), .val (.ref b131), .unset, .unset] [(.int 3), (.ref b131)])) rfl rfl (hb hby at_124)
     replace F132_1 := F132_1.same W133
     have Z133 : n0 ≤ h133.size := Nat.le_trans Z132 (Nat.le_of_eq W133.size.symm)
     replace KP := KP.wr W133 (Or.inr sz_b131)
     have N133 := Fr.snoc X133 N132 g_b131
     refine Run.st st133 ?_
     show Run p e below s _ _ _ (T133.setTop (mkF m 127 #[.val (.int p1), .val (.int p2), .val (.int p3), .val (.int p4), .val (.int p5), .val (.int p6), .val (.int k0), .val (.int k1), .val (.int k2), .val (.ref b1), .val (.int 3), .val (.int 3), z12, .val (.int wd), .val (.ref sb130), .val (.ref b131), .unset, .unset] []))
     refine Run.x_iload (q := 129) X133 hx (hb hby at_127) rfl rfl ?_
     refine Run.x_iload (q := 131) X133 hx (hb hby at_129) rfl rfl ?_
     refine Run.x_icmpYes (q := 154) X133 hx (hb hby at_131) (flt (by decide : ¬ ((3 : Int32) < (3 : Int32)))).2.1 (by decide) (by decide) ?_
     refine Run.x_iconst (q := 155) X133 hx (hb hby at_154) (z := (0 : Int32)) rfl rfl ?_
     refine Run.x_istore (q := 157) X133 hx #[.val (.int p1), .val (.int p2), .val (.int p3), .val (.int p4), .val (.int p5), .val (.int p6), .val (.int k0), .val (.int k1), .val (.int k2), .val (.ref b1), .val (.int 3), .val (.int 3), z12, .val (.int wd), .val (.ref sb130), .val (.ref b131), .val (.int 0), .unset] (hb hby at_155) rfl rfl ?_
     refine Run.x_aload (q := 159) X133 hx (hb hby at_157) rfl rfl rfl ?_
     refine Run.x_iload (q := 161) X133 hx (hb hby at_159) rfl rfl ?_
     replace E_b131 := E_b131.wr W133
     replace F132_0 := F132_0.other W133 (Or.inr (slot_ne (Or.inr (wm43 hw)) (Or.inl (wm45 hw)) (by decide) (t := (.object "java/lang/String")) (t' := .int) (by decide) (by decide)))
     replace Es130 := ((Es130.ext E131).keep K132).wr W133
     replace Fc130 := ((Fc130.ext E131).keep K132 (ninS ne_sb130_b131 nin0)).other W133 (Or.inl ne_sb130_b131)
     replace Fv130 := ((Fv130.ext E131).keep K132 (ninS ne_sb130_b131 nin0)).other W133 (Or.inl ne_sb130_b131)
     replace Ab130 := ((Ab130.ext E131).keep K132 (ninS ne_bts130_b131 nin0)).other W133 ne_bts130_b131
     replace S_COMPACT_STRINGS := S_COMPACT_STRINGS.wr W133
     refine Run.callVI (q := 164) X133 hx hZ e133 (y := (⟨"com/example/sayso/sayso/TextCursor", "at", "(C)Z"⟩ : MethodName)) (z := (⟨"com/example/sayso/sayso/TextCursor", "at", "(C)Z"⟩ : MethodName)) hown (wm46 hw) (wm47 hw) (notFace_of_selects (args := #[]) (mvT hZ (wm49 hw))) (wm49 hw) (wm48 hw) (wm37 hw) (wm50 hw) (by decide) (a := b131) E_b131 (argsL := [(.int wd)]) (rest := []) (c_atg1 l Z a0 hw b131 wd h133 n0 Z133 (3 : Int32) (3 : Int32) sb130 cp bts130 [(.int (k0 >>> ((0 : Int32) &&& 31)).toInt8.toInt32), (.int (k0 >>> ((8 : Int32) &&& 31)).toInt8.toInt32), (.int (k1 >>> ((0 : Int32) &&& 31)).toInt8.toInt32), (.int (k1 >>> ((8 : Int32) &&& 31)).toInt8.toInt32), (.int (k2 >>> ((0 : Int32) &&& 31)).toInt8.toInt32), (.int (k2 >>> ((8 : Int32) &&& 31)).toInt8.toInt32)] (6 : Int32) E_b131 F132_1 F132_0 Es130 Fc130 Fv130 Ab130 S_COMPACT_STRINGS hcp rfl (by decide) (by decide)) pd_19 rfl (by rw [hml]; rfl) (W := 0) rfl (by decide) (by decide) (by decide) (by decide) (hb hby at_161) rfl rfl fun T134 L134 X134 M134 e134 => ?_
     have N134 := Fr.app N133 M134
     refine Run.x_istore (q := 166) X134 hx #[.val (.int p1), .val (.int p2), .val (.int p3), .val (.int p4), .val (.int p5), .val (.int p6), .val (.int k0), .val (.int k1), .val (.int k2), .val (.ref b1), .val (.int 3), .val (.int 3), z12, .val (.int wd), .val (.ref sb130), .val (.ref b131), .val (.int 0), .val (.int 0)] (hb hby at_164) rfl rfl ?_
     refine Run.x_iload (q := 168) X134 hx (hb hby at_166) rfl rfl ?_
     refine Run.x_iload (q := 170) X134 hx (hb hby at_168) rfl rfl ?_
     refine Run.x_icmpNo (q := 173) X134 hx (hb hby at_170) (teq (by decide : (0 : Int32) = (0 : Int32))).2 rfl ?_
     refine Run.x_aload (q := 175) X134 hx (hb hby at_173) rfl rfl rfl ?_
     refine Run.z_getF (q := 178) X134 hx hZ e134 hown (wm44 hw) F132_1 (hb hby at_175) rfl fun T135 X135 e135 => ?_
     refine Run.x_iload (q := 180) X135 hx (hb hby at_178) rfl rfl ?_
     refine Run.x_icmpNo (q := 183) X135 hx (hb hby at_180) (teq (by decide : (3 : Int32) = (3 : Int32))).2 rfl ?_
     refine Run.x_aload (q := 185) X135 hx (hb hby at_183) rfl rfl rfl ?_
     refine Run.z_getF (q := 188) X135 hx hZ e135 hown (wm84 hw) F132_0 (hb hby at_185) rfl fun T136 X136 e136 => ?_
     refine Run.x_aload (q := 190) X136 hx (hb hby at_188) rfl rfl rfl ?_
     refine Run.st (B := T136.setTop (mkF m 193 #[.val (.int p1), .val (.int p2), .val (.int p3), .val (.int p4), .val (.int p5), .val (.int p6), .val (.int k0), .val (.int k1), .val (.int k2), .val (.ref b1), .val (.int 3), .val (.int 3), z12, .val (.int wd), .val (.ref sb130), .val (.ref b131), .val (.int 0), .val (.int 0)] [])) (fun t kt => Jvm.RoadKit.acmp (g := (mkF m 190 #[.val (.int p1), .val (.int p2), .val (.int p3), .val (.int p4), .val (.int p5), .val (.int p6), .val (.int k0), .val (.int k1), .val (.int k2), .val (.ref b1), .val (.int 3), .val (.int 3), z12, .val (.int wd), .val (.ref sb130), .val (.ref b131), .val (.int 0), .val (.int 0)] [(.ref sb130), (.ref sb130)])) X136 hx rfl rfl rfl (pc0 := 190) (pc' := 193) (same := true) rfl (hb hby at_190) rfl (decide_eq_true rfl) (by decide) (by decide) kt) ?_
     refine Run.x_iconst (q := 194) X136 hx (hb hby at_193) (z := (1 : Int32)) rfl rfl ?_
     refine Run.x_goto (q := 198) X136 hx (hb hby at_194) (by decide) (by decide) ?_
     refine Run.retN X136 hx hlk e136 (t := .boolean) hret (by simp) (z' := (1 : Int32)) (by decide) (hb hby at_198) (by decide) (by decide) ?_
     exact ⟨rfl, N134⟩
   ·skip
    have ha0 : ¬ (255 : Int32) < k0 := fun q => hA (Or.inl q)
    have ha1 : ¬ (255 : Int32) < k1 := fun q => hA (Or.inr (Or.inl q))
    have ha2 : ¬ (255 : Int32) < k2 := fun q => hA (Or.inr (Or.inr q))
    rcases own_s3 hpp with rfl | rfl | rfl | rfl
    ·skip
     show Run p e below s _ _ _ (T4.setTop (mkF m 96 #[.val (.int p1), .val (.int p2), .val (.int p3), .val (.int p4), .val (.int p5), .val (.int p6), .val (.int k0), .val (.int k1), .val (.int k2), .val (.ref b1), .val (.int 3), .val (.int 0), z12, .val (.int wd), .unset, .unset, .unset, .unset] []))
     refine Run.x_iload (q := 98) X4 hx (hb hby at_96) rfl rfl ?_
     refine Run.x_iload (q := 100) X4 hx (hb hby at_98) rfl rfl ?_
     refine Run.x_iload (q := 102) X4 hx (hb hby at_100) rfl rfl ?_
     refine Run.x_iload (q := 104) X4 hx (hb hby at_102) rfl rfl ?_
     replace S_COMPACT_STRINGS := (((S_COMPACT_STRINGS.ext E1).wr W2).wr W3).wr W4
     refine Run.callS X4 hx hZ e4 (y := (⟨"com/example/sayso/sayso/TextCursorAtPinLaw", "make", "(ICCC)Ljava/lang/String;"⟩ : MethodName)) hown (wm2 hw) (wm3 hw) (wm4 hw) (wm5 hw) (by decide) (argsL := [(.int 3), (.int k0), (.int k1), (.int k2)]) (rest := []) (c_mk_3_0 l Z a0 hw k0 k1 k2 h4 n0 Z4 cp S_COMPACT_STRINGS hcp ha0 ha1 ha2 rk0 rk1 rk2) pd_17 rfl (by rw [hml]; rfl) (W := 0) rfl (by decide) (by decide) (by decide) (by decide) (hb hby at_104) rfl ?_
     intro T137 v137 L137 X137 q137
     obtain ⟨sb137, bts137, rfl, M137, K137, sz137, Es137, Fv137, Fc137, Ab137⟩ := q137
     have N137 := Fr.app N4 M137
     show Run p e below s _ _ _ (T137.setTop (mkF m 107 #[.val (.int p1), .val (.int p2), .val (.int p3), .val (.int p4), .val (.int p5), .val (.int p6), .val (.int k0), .val (.int k1), .val (.int k2), .val (.ref b1), .val (.int 3), .val (.int 0), z12, .val (.int wd), .unset, .unset, .unset, .unset] [(.ref sb137)]))
     have ne_b1_sb137 : b1 ≠ sb137 := Nat.ne_of_lt (Nat.lt_of_lt_of_le A_b1.lt sz137)
     replace S_COMPACT_STRINGS := Sta_keep S_COMPACT_STRINGS K137 all0
     replace S_SIOOBE_FORMATTER := (((S_SIOOBE_FORMATTER.ext E1).wr W2).wr W3).wr W4
     replace S_SIOOBE_FORMATTER := Sta_keep S_SIOOBE_FORMATTER K137 all0
     replace S__assertionsDisabled := (((S__assertionsDisabled.ext E1).wr W2).wr W3).wr W4
     replace S__assertionsDisabled := Sta_keep S__assertionsDisabled K137 all0
     replace S_HI_BYTE_SHIFT := (((S_HI_BYTE_SHIFT.ext E1).wr W2).wr W3).wr W4
     replace S_HI_BYTE_SHIFT := Sta_keep S_HI_BYTE_SHIFT K137 all0
     replace S_LO_BYTE_SHIFT := (((S_LO_BYTE_SHIFT.ext E1).wr W2).wr W3).wr W4
     replace S_LO_BYTE_SHIFT := Sta_keep S_LO_BYTE_SHIFT K137 all0
     have Z137 : n0 ≤ T137.heap.size := Nat.le_trans Z4 K137.1
     replace KP := KP.trans K137 all0
     refine Run.x_astore (q := 109) X137 hx #[.val (.int p1), .val (.int p2), .val (.int p3), .val (.int p4), .val (.int p5), .val (.int p6), .val (.int k0), .val (.int k1), .val (.int k2), .val (.ref b1), .val (.int 3), .val (.int 0), z12, .val (.int wd), .val (.ref sb137), .unset, .unset, .unset] (hb hby at_107) rfl rfl rfl ?_
     obtain ⟨T138, h138, X138, e138, E138, A138, D138, -, st138⟩ := newO X137 hx hZ hown (wm35 hw) (wm36 hw) (wm37 hw) rfl (g := (mkF m 109 #[.val (.int p1), .val (.int p2), .val (.int p3), .val (.int p4), .val (.int p5), .val (.int p6), .val (.int k0), .val (.int k1), .val (.int k2), .val (.ref b1), .val (.int 3), .val (.int 0), z12, .val (.int wd), .val (.ref sb137), .unset, .unset, .unset] [])) rfl (hb hby at_109) (by decide) (by decide)
     obtain ⟨b138, gg138⟩ : ∃ z, z = T137.heap.size := ⟨_, rfl⟩
     rw [← gg138] at A138 D138 st138
     have g_b138 : n0 ≤ b138 := Nat.le_trans Z137 (Nat.le_of_eq gg138.symm)
     replace A_b1 := A_b1.keep K137 nin0
     have ne_b1_b138 : b1 ≠ b138 := Nat.ne_of_lt (Nat.lt_of_lt_of_le A_b1.lt (Nat.le_of_eq gg138.symm))
     have ne_sb137_b138 : sb137 ≠ b138 := Nat.ne_of_lt (Nat.lt_of_lt_of_le Es137.lt (Nat.le_of_eq gg138.symm))
     have ne_bts137_b138 : bts137 ≠ b138 := Nat.ne_of_lt (Nat.lt_of_lt_of_le Ab137.lt (Nat.le_of_eq gg138.symm))
     have sz_b138 : h0.size ≤ b138 := Nat.le_trans KP.1 (Nat.le_of_eq gg138.symm)
     have Z138 : n0 ≤ h138.size := Nat.le_trans Z137 E138.1
     replace KP := KP.ext E138
     have E_b138 := A138
     have F_b138_text : Fld Z h138 b138 "com/example/sayso/sayso/TextCursor" "text" "Ljava/lang/String;" .null := D138 (Or.inr (wm43 hw)) (ty := (.object "java/lang/String")) (by decide)
     have F_b138_position : Fld Z h138 b138 "com/example/sayso/sayso/TextCursor" "position" "I" (.int 0) := D138 (Or.inl (wm45 hw)) (ty := .int) (by decide)
     refine Run.st st138 ?_
     show Run p e below s _ _ _ (T138.setTop (mkF m 112 #[.val (.int p1), .val (.int p2), .val (.int p3), .val (.int p4), .val (.int p5), .val (.int p6), .val (.int k0), .val (.int k1), .val (.int k2), .val (.ref b1), .val (.int 3), .val (.int 0), z12, .val (.int wd), .val (.ref sb137), .unset, .unset, .unset] [(.ref b138)]))
     refine Run.x_dup (q := 113) X138 hx (hb hby at_112) rfl rfl ?_
     refine Run.x_aload (q := 115) X138 hx (hb hby at_113) rfl rfl rfl ?_
     refine Run.callC X138 hx hZ e138 (y := (⟨"com/example/sayso/sayso/TextCursor", "<init>", "(Ljava/lang/String;)V"⟩ : MethodName)) hown rfl (wm38 hw) (wm39 hw) (wm37 hw) (wm40 hw) (by decide) (a := b138) (argsL := [(.ref sb137)]) (rest := [(.ref b138)]) (c_tci l Z a0 hw b138 sb137 h138 n0 Z138 E_b138 F_b138_text F_b138_position g_b138) pd_18 rfl (by rw [hml]; rfl) (W := 1) rfl (by decide) (by decide) (by decide) (by decide) (hb hby at_115) rfl ?_
     intro T139 v139 L139 X139 q139
     obtain ⟨rfl, M139, K139, E139, F139_0, F139_1⟩ := q139
     have N139 := Fr.app N137 M139
     show Run p e below s _ _ _ (T139.setTop (mkF m 118 #[.val (.int p1), .val (.int p2), .val (.int p3), .val (.int p4), .val (.int p5), .val (.int p6), .val (.int k0), .val (.int k1), .val (.int k2), .val (.ref b1), .val (.int 3), .val (.int 0), z12, .val (.int wd), .val (.ref sb137), .unset, .unset, .unset] [(.ref b138)]))
     replace S_COMPACT_STRINGS := S_COMPACT_STRINGS.ext E138
     replace S_COMPACT_STRINGS := Sta_keep S_COMPACT_STRINGS K139 (allS (Exa_ns E_b138) all0)
     replace S_SIOOBE_FORMATTER := S_SIOOBE_FORMATTER.ext E138
     replace S_SIOOBE_FORMATTER := Sta_keep S_SIOOBE_FORMATTER K139 (allS (Exa_ns E_b138) all0)
     replace S__assertionsDisabled := S__assertionsDisabled.ext E138
     replace S__assertionsDisabled := Sta_keep S__assertionsDisabled K139 (allS (Exa_ns E_b138) all0)
     replace S_HI_BYTE_SHIFT := S_HI_BYTE_SHIFT.ext E138
     replace S_HI_BYTE_SHIFT := Sta_keep S_HI_BYTE_SHIFT K139 (allS (Exa_ns E_b138) all0)
     replace S_LO_BYTE_SHIFT := S_LO_BYTE_SHIFT.ext E138
     replace S_LO_BYTE_SHIFT := Sta_keep S_LO_BYTE_SHIFT K139 (allS (Exa_ns E_b138) all0)
     have Z139 : n0 ≤ T139.heap.size := Nat.le_trans Z138 K139.1
     replace KP := KP.trans K139 (allS (Or.inr sz_b138) all0)
     refine Run.x_astore (q := 120) X139 hx #[.val (.int p1), .val (.int p2), .val (.int p3), .val (.int p4), .val (.int p5), .val (.int p6), .val (.int k0), .val (.int k1), .val (.int k2), .val (.ref b1), .val (.int 3), .val (.int 0), z12, .val (.int wd), .val (.ref sb137), .val (.ref b138), .unset, .unset] (hb hby at_118) rfl rfl rfl ?_
     refine Run.x_aload (q := 122) X139 hx (hb hby at_120) rfl rfl rfl ?_
     refine Run.x_iload (q := 124) X139 hx (hb hby at_122) rfl rfl ?_
     replace E_b138 := E_b138.keep K139
     obtain ⟨T140, h140, X140, e140, W140, st140⟩ := putF X139 hx hZ hown (host := "") (Or.inl (wm44 hw)) Via.refl rfl F139_1 E_b138 (Or.inl (wm45 hw)) (wm36 hw) (ty := .int) (by decide) rfl rfl (g := (mkF m 124 #[.val (.int p1), .val (.int p2), .val (.int p3), .val (.int p4), .val (.int p5), .val (.int p6), .val (.int k0), .val (.int k1), .val (.int k2), .val (.ref b1), .val (.int 3), .val (.int 0), z12, .val (.int wd), .val (.ref sb137), .val (.ref b138), .unset, .unset] [(.int 0), (.ref b138)])) rfl rfl (hb hby at_124)
     replace F139_1 := F139_1.same W140
     have Z140 : n0 ≤ h140.size := Nat.le_trans Z139 (Nat.le_of_eq W140.size.symm)
     replace KP := KP.wr W140 (Or.inr sz_b138)
     have N140 := Fr.snoc X140 N139 g_b138
     refine Run.st st140 ?_
     show Run p e below s _ _ _ (T140.setTop (mkF m 127 #[.val (.int p1), .val (.int p2), .val (.int p3), .val (.int p4), .val (.int p5), .val (.int p6), .val (.int k0), .val (.int k1), .val (.int k2), .val (.ref b1), .val (.int 3), .val (.int 0), z12, .val (.int wd), .val (.ref sb137), .val (.ref b138), .unset, .unset] []))
     refine Run.x_iload (q := 129) X140 hx (hb hby at_127) rfl rfl ?_
     refine Run.x_iload (q := 131) X140 hx (hb hby at_129) rfl rfl ?_
     refine Run.x_icmpNo (q := 134) X140 hx (hb hby at_131) (tlt (by decide : (0 : Int32) < (3 : Int32))).2.1 rfl ?_
     refine Run.x_aload (q := 136) X140 hx (hb hby at_134) rfl rfl rfl ?_
     refine Run.x_iload (q := 138) X140 hx (hb hby at_136) rfl rfl ?_
     replace A_b1 := ((A_b1.ext E138).keep K139 (ninS ne_b1_b138 nin0)).other W140 ne_b1_b138
     refine Run.y_ldC (q := 139) X140 hx hZ e140 A_b1 (i := 0) (v := (.int k0)) (by decide) rfl (hb hby at_138) rfl ?_
     refine Run.x_iload (q := 141) X140 hx (hb hby at_139) rfl rfl ?_
     by_cases hc141 : k0 = wd
     ·skip
      refine Run.x_icmpNo (q := 144) X140 hx (hb hby at_141) (teq hc141).2 rfl ?_
      refine Run.x_iconst (q := 145) X140 hx (hb hby at_144) (z := (1 : Int32)) rfl rfl ?_
      refine Run.x_goto (q := 149) X140 hx (hb hby at_145) (by decide) (by decide) ?_
      refine Run.x_istore (q := 151) X140 hx #[.val (.int p1), .val (.int p2), .val (.int p3), .val (.int p4), .val (.int p5), .val (.int p6), .val (.int k0), .val (.int k1), .val (.int k2), .val (.ref b1), .val (.int 3), .val (.int 0), z12, .val (.int wd), .val (.ref sb137), .val (.ref b138), .val (.int 1), .unset] (hb hby at_149) rfl rfl ?_
      refine Run.x_goto (q := 157) X140 hx (hb hby at_151) (by decide) (by decide) ?_
      refine Run.x_aload (q := 159) X140 hx (hb hby at_157) rfl rfl rfl ?_
      refine Run.x_iload (q := 161) X140 hx (hb hby at_159) rfl rfl ?_
      replace E_b138 := E_b138.wr W140
      replace F139_0 := F139_0.other W140 (Or.inr (slot_ne (Or.inr (wm43 hw)) (Or.inl (wm45 hw)) (by decide) (t := (.object "java/lang/String")) (t' := .int) (by decide) (by decide)))
      replace Es137 := ((Es137.ext E138).keep K139).wr W140
      replace Fc137 := ((Fc137.ext E138).keep K139 (ninS ne_sb137_b138 nin0)).other W140 (Or.inl ne_sb137_b138)
      replace Fv137 := ((Fv137.ext E138).keep K139 (ninS ne_sb137_b138 nin0)).other W140 (Or.inl ne_sb137_b138)
      replace Ab137 := ((Ab137.ext E138).keep K139 (ninS ne_bts137_b138 nin0)).other W140 ne_bts137_b138
      replace S_COMPACT_STRINGS := S_COMPACT_STRINGS.wr W140
      replace S_SIOOBE_FORMATTER := S_SIOOBE_FORMATTER.wr W140
      refine Run.callVI (q := 164) X140 hx hZ e140 (y := (⟨"com/example/sayso/sayso/TextCursor", "at", "(C)Z"⟩ : MethodName)) (z := (⟨"com/example/sayso/sayso/TextCursor", "at", "(C)Z"⟩ : MethodName)) hown (wm46 hw) (wm47 hw) (notFace_of_selects (args := #[]) (mvT hZ (wm49 hw))) (wm49 hw) (wm48 hw) (wm37 hw) (wm50 hw) (by decide) (a := b138) E_b138 (argsL := [(.int wd)]) (rest := []) (c_atl0 l Z a0 hw b138 wd h140 n0 Z140 (0 : Int32) (3 : Int32) sb137 cp bts137 [(.int k0.toInt8.toInt32), (.int k1.toInt8.toInt32), (.int k2.toInt8.toInt32)] (3 : Int32) sf 0 k0.toInt8.toInt32 k0 E_b138 F139_1 F139_0 Es137 Fc137 Fv137 Ab137 S_COMPACT_STRINGS S_SIOOBE_FORMATTER hcp (by decide) (by decide) hsf rfl (by decide) rfl (by decide) (by decide) (own_lat rk0 ha0) (own_nr rk0)) pd_19 rfl (by rw [hml]; rfl) (W := 0) rfl (by decide) (by decide) (by decide) (by decide) (hb hby at_161) rfl rfl fun T141 L141 X141 M141 e141 => ?_
      have N141 := Fr.app N140 M141
      refine Run.x_istore (q := 166) X141 hx #[.val (.int p1), .val (.int p2), .val (.int p3), .val (.int p4), .val (.int p5), .val (.int p6), .val (.int k0), .val (.int k1), .val (.int k2), .val (.ref b1), .val (.int 3), .val (.int 0), z12, .val (.int wd), .val (.ref sb137), .val (.ref b138), .val (.int 1), .val (.int (own_b (k0 = wd)))] (hb hby at_164) rfl rfl ?_
      refine Run.x_iload (q := 168) X141 hx (hb hby at_166) rfl rfl ?_
      refine Run.x_iload (q := 170) X141 hx (hb hby at_168) rfl rfl ?_
      refine Run.x_icmpNo (q := 173) X141 hx (hb hby at_170) (teq (own_b1 hc141)).2 rfl ?_
      refine Run.x_aload (q := 175) X141 hx (hb hby at_173) rfl rfl rfl ?_
      refine Run.z_getF (q := 178) X141 hx hZ e141 hown (wm44 hw) F139_1 (hb hby at_175) rfl fun T142 X142 e142 => ?_
      refine Run.x_iload (q := 180) X142 hx (hb hby at_178) rfl rfl ?_
      refine Run.x_icmpNo (q := 183) X142 hx (hb hby at_180) (teq (by decide : (0 : Int32) = (0 : Int32))).2 rfl ?_
      refine Run.x_aload (q := 185) X142 hx (hb hby at_183) rfl rfl rfl ?_
      refine Run.z_getF (q := 188) X142 hx hZ e142 hown (wm84 hw) F139_0 (hb hby at_185) rfl fun T143 X143 e143 => ?_
      refine Run.x_aload (q := 190) X143 hx (hb hby at_188) rfl rfl rfl ?_
      refine Run.st (B := T143.setTop (mkF m 193 #[.val (.int p1), .val (.int p2), .val (.int p3), .val (.int p4), .val (.int p5), .val (.int p6), .val (.int k0), .val (.int k1), .val (.int k2), .val (.ref b1), .val (.int 3), .val (.int 0), z12, .val (.int wd), .val (.ref sb137), .val (.ref b138), .val (.int 1), .val (.int (own_b (k0 = wd)))] [])) (fun t kt => Jvm.RoadKit.acmp (g := (mkF m 190 #[.val (.int p1), .val (.int p2), .val (.int p3), .val (.int p4), .val (.int p5), .val (.int p6), .val (.int k0), .val (.int k1), .val (.int k2), .val (.ref b1), .val (.int 3), .val (.int 0), z12, .val (.int wd), .val (.ref sb137), .val (.ref b138), .val (.int 1), .val (.int (own_b (k0 = wd)))] [(.ref sb137), (.ref sb137)])) X143 hx rfl rfl rfl (pc0 := 190) (pc' := 193) (same := true) rfl (hb hby at_190) rfl (decide_eq_true rfl) (by decide) (by decide) kt) ?_
      refine Run.x_iconst (q := 194) X143 hx (hb hby at_193) (z := (1 : Int32)) rfl rfl ?_
      refine Run.x_goto (q := 198) X143 hx (hb hby at_194) (by decide) (by decide) ?_
      refine Run.retN X143 hx hlk e143 (t := .boolean) hret (by simp) (z' := (1 : Int32)) (by decide) (hb hby at_198) (by decide) (by decide) ?_
      exact ⟨rfl, N141⟩
     ·skip
      refine Run.x_icmpYes (q := 148) X140 hx (hb hby at_141) (feq hc141).2 (by decide) (by decide) ?_
      refine Run.x_iconst (q := 149) X140 hx (hb hby at_148) (z := (0 : Int32)) rfl rfl ?_
      refine Run.x_istore (q := 151) X140 hx #[.val (.int p1), .val (.int p2), .val (.int p3), .val (.int p4), .val (.int p5), .val (.int p6), .val (.int k0), .val (.int k1), .val (.int k2), .val (.ref b1), .val (.int 3), .val (.int 0), z12, .val (.int wd), .val (.ref sb137), .val (.ref b138), .val (.int 0), .unset] (hb hby at_149) rfl rfl ?_
      refine Run.x_goto (q := 157) X140 hx (hb hby at_151) (by decide) (by decide) ?_
      refine Run.x_aload (q := 159) X140 hx (hb hby at_157) rfl rfl rfl ?_
      refine Run.x_iload (q := 161) X140 hx (hb hby at_159) rfl rfl ?_
      replace E_b138 := E_b138.wr W140
      replace F139_0 := F139_0.other W140 (Or.inr (slot_ne (Or.inr (wm43 hw)) (Or.inl (wm45 hw)) (by decide) (t := (.object "java/lang/String")) (t' := .int) (by decide) (by decide)))
      replace Es137 := ((Es137.ext E138).keep K139).wr W140
      replace Fc137 := ((Fc137.ext E138).keep K139 (ninS ne_sb137_b138 nin0)).other W140 (Or.inl ne_sb137_b138)
      replace Fv137 := ((Fv137.ext E138).keep K139 (ninS ne_sb137_b138 nin0)).other W140 (Or.inl ne_sb137_b138)
      replace Ab137 := ((Ab137.ext E138).keep K139 (ninS ne_bts137_b138 nin0)).other W140 ne_bts137_b138
      replace S_COMPACT_STRINGS := S_COMPACT_STRINGS.wr W140
      replace S_SIOOBE_FORMATTER := S_SIOOBE_FORMATTER.wr W140
      refine Run.callVI (q := 164) X140 hx hZ e140 (y := (⟨"com/example/sayso/sayso/TextCursor", "at", "(C)Z"⟩ : MethodName)) (z := (⟨"com/example/sayso/sayso/TextCursor", "at", "(C)Z"⟩ : MethodName)) hown (wm46 hw) (wm47 hw) (notFace_of_selects (args := #[]) (mvT hZ (wm49 hw))) (wm49 hw) (wm48 hw) (wm37 hw) (wm50 hw) (by decide) (a := b138) E_b138 (argsL := [(.int wd)]) (rest := []) (c_atl0 l Z a0 hw b138 wd h140 n0 Z140 (0 : Int32) (3 : Int32) sb137 cp bts137 [(.int k0.toInt8.toInt32), (.int k1.toInt8.toInt32), (.int k2.toInt8.toInt32)] (3 : Int32) sf 0 k0.toInt8.toInt32 k0 E_b138 F139_1 F139_0 Es137 Fc137 Fv137 Ab137 S_COMPACT_STRINGS S_SIOOBE_FORMATTER hcp (by decide) (by decide) hsf rfl (by decide) rfl (by decide) (by decide) (own_lat rk0 ha0) (own_nr rk0)) pd_19 rfl (by rw [hml]; rfl) (W := 0) rfl (by decide) (by decide) (by decide) (by decide) (hb hby at_161) rfl rfl fun T144 L144 X144 M144 e144 => ?_
      have N144 := Fr.app N140 M144
      refine Run.x_istore (q := 166) X144 hx #[.val (.int p1), .val (.int p2), .val (.int p3), .val (.int p4), .val (.int p5), .val (.int p6), .val (.int k0), .val (.int k1), .val (.int k2), .val (.ref b1), .val (.int 3), .val (.int 0), z12, .val (.int wd), .val (.ref sb137), .val (.ref b138), .val (.int 0), .val (.int (own_b (k0 = wd)))] (hb hby at_164) rfl rfl ?_
      refine Run.x_iload (q := 168) X144 hx (hb hby at_166) rfl rfl ?_
      refine Run.x_iload (q := 170) X144 hx (hb hby at_168) rfl rfl ?_
      refine Run.x_icmpNo (q := 173) X144 hx (hb hby at_170) (teq (own_b0 hc141)).2 rfl ?_
      refine Run.x_aload (q := 175) X144 hx (hb hby at_173) rfl rfl rfl ?_
      refine Run.z_getF (q := 178) X144 hx hZ e144 hown (wm44 hw) F139_1 (hb hby at_175) rfl fun T145 X145 e145 => ?_
      refine Run.x_iload (q := 180) X145 hx (hb hby at_178) rfl rfl ?_
      refine Run.x_icmpNo (q := 183) X145 hx (hb hby at_180) (teq (by decide : (0 : Int32) = (0 : Int32))).2 rfl ?_
      refine Run.x_aload (q := 185) X145 hx (hb hby at_183) rfl rfl rfl ?_
      refine Run.z_getF (q := 188) X145 hx hZ e145 hown (wm84 hw) F139_0 (hb hby at_185) rfl fun T146 X146 e146 => ?_
      refine Run.x_aload (q := 190) X146 hx (hb hby at_188) rfl rfl rfl ?_
      refine Run.st (B := T146.setTop (mkF m 193 #[.val (.int p1), .val (.int p2), .val (.int p3), .val (.int p4), .val (.int p5), .val (.int p6), .val (.int k0), .val (.int k1), .val (.int k2), .val (.ref b1), .val (.int 3), .val (.int 0), z12, .val (.int wd), .val (.ref sb137), .val (.ref b138), .val (.int 0), .val (.int (own_b (k0 = wd)))] [])) (fun t kt => Jvm.RoadKit.acmp (g := (mkF m 190 #[.val (.int p1), .val (.int p2), .val (.int p3), .val (.int p4), .val (.int p5), .val (.int p6), .val (.int k0), .val (.int k1), .val (.int k2), .val (.ref b1), .val (.int 3), .val (.int 0), z12, .val (.int wd), .val (.ref sb137), .val (.ref b138), .val (.int 0), .val (.int (own_b (k0 = wd)))] [(.ref sb137), (.ref sb137)])) X146 hx rfl rfl rfl (pc0 := 190) (pc' := 193) (same := true) rfl (hb hby at_190) rfl (decide_eq_true rfl) (by decide) (by decide) kt) ?_
      refine Run.x_iconst (q := 194) X146 hx (hb hby at_193) (z := (1 : Int32)) rfl rfl ?_
      refine Run.x_goto (q := 198) X146 hx (hb hby at_194) (by decide) (by decide) ?_
      refine Run.retN X146 hx hlk e146 (t := .boolean) hret (by simp) (z' := (1 : Int32)) (by decide) (hb hby at_198) (by decide) (by decide) ?_
      exact ⟨rfl, N144⟩
    ·skip
     show Run p e below s _ _ _ (T4.setTop (mkF m 96 #[.val (.int p1), .val (.int p2), .val (.int p3), .val (.int p4), .val (.int p5), .val (.int p6), .val (.int k0), .val (.int k1), .val (.int k2), .val (.ref b1), .val (.int 3), .val (.int 1), z12, .val (.int wd), .unset, .unset, .unset, .unset] []))
     refine Run.x_iload (q := 98) X4 hx (hb hby at_96) rfl rfl ?_
     refine Run.x_iload (q := 100) X4 hx (hb hby at_98) rfl rfl ?_
     refine Run.x_iload (q := 102) X4 hx (hb hby at_100) rfl rfl ?_
     refine Run.x_iload (q := 104) X4 hx (hb hby at_102) rfl rfl ?_
     replace S_COMPACT_STRINGS := (((S_COMPACT_STRINGS.ext E1).wr W2).wr W3).wr W4
     refine Run.callS X4 hx hZ e4 (y := (⟨"com/example/sayso/sayso/TextCursorAtPinLaw", "make", "(ICCC)Ljava/lang/String;"⟩ : MethodName)) hown (wm2 hw) (wm3 hw) (wm4 hw) (wm5 hw) (by decide) (argsL := [(.int 3), (.int k0), (.int k1), (.int k2)]) (rest := []) (c_mk_3_0 l Z a0 hw k0 k1 k2 h4 n0 Z4 cp S_COMPACT_STRINGS hcp ha0 ha1 ha2 rk0 rk1 rk2) pd_17 rfl (by rw [hml]; rfl) (W := 0) rfl (by decide) (by decide) (by decide) (by decide) (hb hby at_104) rfl ?_
     intro T147 v147 L147 X147 q147
     obtain ⟨sb147, bts147, rfl, M147, K147, sz147, Es147, Fv147, Fc147, Ab147⟩ := q147
     have N147 := Fr.app N4 M147
     show Run p e below s _ _ _ (T147.setTop (mkF m 107 #[.val (.int p1), .val (.int p2), .val (.int p3), .val (.int p4), .val (.int p5), .val (.int p6), .val (.int k0), .val (.int k1), .val (.int k2), .val (.ref b1), .val (.int 3), .val (.int 1), z12, .val (.int wd), .unset, .unset, .unset, .unset] [(.ref sb147)]))
     have ne_b1_sb147 : b1 ≠ sb147 := Nat.ne_of_lt (Nat.lt_of_lt_of_le A_b1.lt sz147)
     replace S_COMPACT_STRINGS := Sta_keep S_COMPACT_STRINGS K147 all0
     replace S_SIOOBE_FORMATTER := (((S_SIOOBE_FORMATTER.ext E1).wr W2).wr W3).wr W4
     replace S_SIOOBE_FORMATTER := Sta_keep S_SIOOBE_FORMATTER K147 all0
     replace S__assertionsDisabled := (((S__assertionsDisabled.ext E1).wr W2).wr W3).wr W4
     replace S__assertionsDisabled := Sta_keep S__assertionsDisabled K147 all0
     replace S_HI_BYTE_SHIFT := (((S_HI_BYTE_SHIFT.ext E1).wr W2).wr W3).wr W4
     replace S_HI_BYTE_SHIFT := Sta_keep S_HI_BYTE_SHIFT K147 all0
     replace S_LO_BYTE_SHIFT := (((S_LO_BYTE_SHIFT.ext E1).wr W2).wr W3).wr W4
     replace S_LO_BYTE_SHIFT := Sta_keep S_LO_BYTE_SHIFT K147 all0
     have Z147 : n0 ≤ T147.heap.size := Nat.le_trans Z4 K147.1
     replace KP := KP.trans K147 all0
     refine Run.x_astore (q := 109) X147 hx #[.val (.int p1), .val (.int p2), .val (.int p3), .val (.int p4), .val (.int p5), .val (.int p6), .val (.int k0), .val (.int k1), .val (.int k2), .val (.ref b1), .val (.int 3), .val (.int 1), z12, .val (.int wd), .val (.ref sb147), .unset, .unset, .unset] (hb hby at_107) rfl rfl rfl ?_
     obtain ⟨T148, h148, X148, e148, E148, A148, D148, -, st148⟩ := newO X147 hx hZ hown (wm35 hw) (wm36 hw) (wm37 hw) rfl (g := (mkF m 109 #[.val (.int p1), .val (.int p2), .val (.int p3), .val (.int p4), .val (.int p5), .val (.int p6), .val (.int k0), .val (.int k1), .val (.int k2), .val (.ref b1), .val (.int 3), .val (.int 1), z12, .val (.int wd), .val (.ref sb147), .unset, .unset, .unset] [])) rfl (hb hby at_109) (by decide) (by decide)
     obtain ⟨b148, gg148⟩ : ∃ z, z = T147.heap.size := ⟨_, rfl⟩
     rw [← gg148] at A148 D148 st148
     have g_b148 : n0 ≤ b148 := Nat.le_trans Z147 (Nat.le_of_eq gg148.symm)
     replace A_b1 := A_b1.keep K147 nin0
     have ne_b1_b148 : b1 ≠ b148 := Nat.ne_of_lt (Nat.lt_of_lt_of_le A_b1.lt (Nat.le_of_eq gg148.symm))
     have ne_sb147_b148 : sb147 ≠ b148 := Nat.ne_of_lt (Nat.lt_of_lt_of_le Es147.lt (Nat.le_of_eq gg148.symm))
     have ne_bts147_b148 : bts147 ≠ b148 := Nat.ne_of_lt (Nat.lt_of_lt_of_le Ab147.lt (Nat.le_of_eq gg148.symm))
     have sz_b148 : h0.size ≤ b148 := Nat.le_trans KP.1 (Nat.le_of_eq gg148.symm)
     have Z148 : n0 ≤ h148.size := Nat.le_trans Z147 E148.1
     replace KP := KP.ext E148
     have E_b148 := A148
     have F_b148_text : Fld Z h148 b148 "com/example/sayso/sayso/TextCursor" "text" "Ljava/lang/String;" .null := D148 (Or.inr (wm43 hw)) (ty := (.object "java/lang/String")) (by decide)
     have F_b148_position : Fld Z h148 b148 "com/example/sayso/sayso/TextCursor" "position" "I" (.int 0) := D148 (Or.inl (wm45 hw)) (ty := .int) (by decide)
     refine Run.st st148 ?_
     show Run p e below s _ _ _ (T148.setTop (mkF m 112 #[.val (.int p1), .val (.int p2), .val (.int p3), .val (.int p4), .val (.int p5), .val (.int p6), .val (.int k0), .val (.int k1), .val (.int k2), .val (.ref b1), .val (.int 3), .val (.int 1), z12, .val (.int wd), .val (.ref sb147), .unset, .unset, .unset] [(.ref b148)]))
     refine Run.x_dup (q := 113) X148 hx (hb hby at_112) rfl rfl ?_
     refine Run.x_aload (q := 115) X148 hx (hb hby at_113) rfl rfl rfl ?_
     refine Run.callC X148 hx hZ e148 (y := (⟨"com/example/sayso/sayso/TextCursor", "<init>", "(Ljava/lang/String;)V"⟩ : MethodName)) hown rfl (wm38 hw) (wm39 hw) (wm37 hw) (wm40 hw) (by decide) (a := b148) (argsL := [(.ref sb147)]) (rest := [(.ref b148)]) (c_tci l Z a0 hw b148 sb147 h148 n0 Z148 E_b148 F_b148_text F_b148_position g_b148) pd_18 rfl (by rw [hml]; rfl) (W := 1) rfl (by decide) (by decide) (by decide) (by decide) (hb hby at_115) rfl ?_
     intro T149 v149 L149 X149 q149
     obtain ⟨rfl, M149, K149, E149, F149_0, F149_1⟩ := q149
     have N149 := Fr.app N147 M149
     show Run p e below s _ _ _ (T149.setTop (mkF m 118 #[.val (.int p1), .val (.int p2), .val (.int p3), .val (.int p4), .val (.int p5), .val (.int p6), .val (.int k0), .val (.int k1), .val (.int k2), .val (.ref b1), .val (.int 3), .val (.int 1), z12, .val (.int wd), .val (.ref sb147), .unset, .unset, .unset] [(.ref b148)]))
     replace S_COMPACT_STRINGS := S_COMPACT_STRINGS.ext E148
     replace S_COMPACT_STRINGS := Sta_keep S_COMPACT_STRINGS K149 (allS (Exa_ns E_b148) all0)
     replace S_SIOOBE_FORMATTER := S_SIOOBE_FORMATTER.ext E148
     replace S_SIOOBE_FORMATTER := Sta_keep S_SIOOBE_FORMATTER K149 (allS (Exa_ns E_b148) all0)
     replace S__assertionsDisabled := S__assertionsDisabled.ext E148
     replace S__assertionsDisabled := Sta_keep S__assertionsDisabled K149 (allS (Exa_ns E_b148) all0)
     replace S_HI_BYTE_SHIFT := S_HI_BYTE_SHIFT.ext E148
     replace S_HI_BYTE_SHIFT := Sta_keep S_HI_BYTE_SHIFT K149 (allS (Exa_ns E_b148) all0)
     replace S_LO_BYTE_SHIFT := S_LO_BYTE_SHIFT.ext E148
     replace S_LO_BYTE_SHIFT := Sta_keep S_LO_BYTE_SHIFT K149 (allS (Exa_ns E_b148) all0)
     have Z149 : n0 ≤ T149.heap.size := Nat.le_trans Z148 K149.1
     replace KP := KP.trans K149 (allS (Or.inr sz_b148) all0)
     refine Run.x_astore (q := 120) X149 hx #[.val (.int p1), .val (.int p2), .val (.int p3), .val (.int p4), .val (.int p5), .val (.int p6), .val (.int k0), .val (.int k1), .val (.int k2), .val (.ref b1), .val (.int 3), .val (.int 1), z12, .val (.int wd), .val (.ref sb147), .val (.ref b148), .unset, .unset] (hb hby at_118) rfl rfl rfl ?_
     refine Run.x_aload (q := 122) X149 hx (hb hby at_120) rfl rfl rfl ?_
     refine Run.x_iload (q := 124) X149 hx (hb hby at_122) rfl rfl ?_
     replace E_b148 := E_b148.keep K149
     obtain ⟨T150, h150, X150, e150, W150, st150⟩ := putF X149 hx hZ hown (host := "") (Or.inl (wm44 hw)) Via.refl rfl F149_1 E_b148 (Or.inl (wm45 hw)) (wm36 hw) (ty := .int) (by decide) rfl rfl (g := (mkF m 124 #[.val (.int p1), .val (.int p2), .val (.int p3), .val (.int p4), .val (.int p5), .val (.int p6), .val (.int k0), .val (.int k1), .val (.int k2), .val (.ref b1), .val (.int 3), .val (.int 1), z12, .val (.int wd), .val (.ref sb147), .val (.ref b148), .unset, .unset] [(.int 1), (.ref b148)])) rfl rfl (hb hby at_124)
     replace F149_1 := F149_1.same W150
     have Z150 : n0 ≤ h150.size := Nat.le_trans Z149 (Nat.le_of_eq W150.size.symm)
     replace KP := KP.wr W150 (Or.inr sz_b148)
     have N150 := Fr.snoc X150 N149 g_b148
     refine Run.st st150 ?_
     show Run p e below s _ _ _ (T150.setTop (mkF m 127 #[.val (.int p1), .val (.int p2), .val (.int p3), .val (.int p4), .val (.int p5), .val (.int p6), .val (.int k0), .val (.int k1), .val (.int k2), .val (.ref b1), .val (.int 3), .val (.int 1), z12, .val (.int wd), .val (.ref sb147), .val (.ref b148), .unset, .unset] []))
     refine Run.x_iload (q := 129) X150 hx (hb hby at_127) rfl rfl ?_
     refine Run.x_iload (q := 131) X150 hx (hb hby at_129) rfl rfl ?_
     refine Run.x_icmpNo (q := 134) X150 hx (hb hby at_131) (tlt (by decide : (1 : Int32) < (3 : Int32))).2.1 rfl ?_
     refine Run.x_aload (q := 136) X150 hx (hb hby at_134) rfl rfl rfl ?_
     refine Run.x_iload (q := 138) X150 hx (hb hby at_136) rfl rfl ?_
     replace A_b1 := ((A_b1.ext E148).keep K149 (ninS ne_b1_b148 nin0)).other W150 ne_b1_b148
     refine Run.y_ldC (q := 139) X150 hx hZ e150 A_b1 (i := 1) (v := (.int k1)) (by decide) rfl (hb hby at_138) rfl ?_
     refine Run.x_iload (q := 141) X150 hx (hb hby at_139) rfl rfl ?_
     by_cases hc141 : k1 = wd
     ·skip
      refine Run.x_icmpNo (q := 144) X150 hx (hb hby at_141) (teq hc141).2 rfl ?_
      refine Run.x_iconst (q := 145) X150 hx (hb hby at_144) (z := (1 : Int32)) rfl rfl ?_
      refine Run.x_goto (q := 149) X150 hx (hb hby at_145) (by decide) (by decide) ?_
      refine Run.x_istore (q := 151) X150 hx #[.val (.int p1), .val (.int p2), .val (.int p3), .val (.int p4), .val (.int p5), .val (.int p6), .val (.int k0), .val (.int k1), .val (.int k2), .val (.ref b1), .val (.int 3), .val (.int 1), z12, .val (.int wd), .val (.ref sb147), .val (.ref b148), .val (.int 1), .unset] (hb hby at_149) rfl rfl ?_
      refine Run.x_goto (q := 157) X150 hx (hb hby at_151) (by decide) (by decide) ?_
      refine Run.x_aload (q := 159) X150 hx (hb hby at_157) rfl rfl rfl ?_
      refine Run.x_iload (q := 161) X150 hx (hb hby at_159) rfl rfl ?_
      replace E_b148 := E_b148.wr W150
      replace F149_0 := F149_0.other W150 (Or.inr (slot_ne (Or.inr (wm43 hw)) (Or.inl (wm45 hw)) (by decide) (t := (.object "java/lang/String")) (t' := .int) (by decide) (by decide)))
      replace Es147 := ((Es147.ext E148).keep K149).wr W150
      replace Fc147 := ((Fc147.ext E148).keep K149 (ninS ne_sb147_b148 nin0)).other W150 (Or.inl ne_sb147_b148)
      replace Fv147 := ((Fv147.ext E148).keep K149 (ninS ne_sb147_b148 nin0)).other W150 (Or.inl ne_sb147_b148)
      replace Ab147 := ((Ab147.ext E148).keep K149 (ninS ne_bts147_b148 nin0)).other W150 ne_bts147_b148
      replace S_COMPACT_STRINGS := S_COMPACT_STRINGS.wr W150
      replace S_SIOOBE_FORMATTER := S_SIOOBE_FORMATTER.wr W150
      refine Run.callVI (q := 164) X150 hx hZ e150 (y := (⟨"com/example/sayso/sayso/TextCursor", "at", "(C)Z"⟩ : MethodName)) (z := (⟨"com/example/sayso/sayso/TextCursor", "at", "(C)Z"⟩ : MethodName)) hown (wm46 hw) (wm47 hw) (notFace_of_selects (args := #[]) (mvT hZ (wm49 hw))) (wm49 hw) (wm48 hw) (wm37 hw) (wm50 hw) (by decide) (a := b148) E_b148 (argsL := [(.int wd)]) (rest := []) (c_atl0 l Z a0 hw b148 wd h150 n0 Z150 (1 : Int32) (3 : Int32) sb147 cp bts147 [(.int k0.toInt8.toInt32), (.int k1.toInt8.toInt32), (.int k2.toInt8.toInt32)] (3 : Int32) sf 1 k1.toInt8.toInt32 k1 E_b148 F149_1 F149_0 Es147 Fc147 Fv147 Ab147 S_COMPACT_STRINGS S_SIOOBE_FORMATTER hcp (by decide) (by decide) hsf rfl (by decide) rfl (by decide) (by decide) (own_lat rk1 ha1) (own_nr rk1)) pd_19 rfl (by rw [hml]; rfl) (W := 0) rfl (by decide) (by decide) (by decide) (by decide) (hb hby at_161) rfl rfl fun T151 L151 X151 M151 e151 => ?_
      have N151 := Fr.app N150 M151
      refine Run.x_istore (q := 166) X151 hx #[.val (.int p1), .val (.int p2), .val (.int p3), .val (.int p4), .val (.int p5), .val (.int p6), .val (.int k0), .val (.int k1), .val (.int k2), .val (.ref b1), .val (.int 3), .val (.int 1), z12, .val (.int wd), .val (.ref sb147), .val (.ref b148), .val (.int 1), .val (.int (own_b (k1 = wd)))] (hb hby at_164) rfl rfl ?_
      refine Run.x_iload (q := 168) X151 hx (hb hby at_166) rfl rfl ?_
      refine Run.x_iload (q := 170) X151 hx (hb hby at_168) rfl rfl ?_
      refine Run.x_icmpNo (q := 173) X151 hx (hb hby at_170) (teq (own_b1 hc141)).2 rfl ?_
      refine Run.x_aload (q := 175) X151 hx (hb hby at_173) rfl rfl rfl ?_
      refine Run.z_getF (q := 178) X151 hx hZ e151 hown (wm44 hw) F149_1 (hb hby at_175) rfl fun T152 X152 e152 => ?_
      refine Run.x_iload (q := 180) X152 hx (hb hby at_178) rfl rfl ?_
      refine Run.x_icmpNo (q := 183) X152 hx (hb hby at_180) (teq (by decide : (1 : Int32) = (1 : Int32))).2 rfl ?_
      refine Run.x_aload (q := 185) X152 hx (hb hby at_183) rfl rfl rfl ?_
      refine Run.z_getF (q := 188) X152 hx hZ e152 hown (wm84 hw) F149_0 (hb hby at_185) rfl fun T153 X153 e153 => ?_
      refine Run.x_aload (q := 190) X153 hx (hb hby at_188) rfl rfl rfl ?_
      refine Run.st (B := T153.setTop (mkF m 193 #[.val (.int p1), .val (.int p2), .val (.int p3), .val (.int p4), .val (.int p5), .val (.int p6), .val (.int k0), .val (.int k1), .val (.int k2), .val (.ref b1), .val (.int 3), .val (.int 1), z12, .val (.int wd), .val (.ref sb147), .val (.ref b148), .val (.int 1), .val (.int (own_b (k1 = wd)))] [])) (fun t kt => Jvm.RoadKit.acmp (g := (mkF m 190 #[.val (.int p1), .val (.int p2), .val (.int p3), .val (.int p4), .val (.int p5), .val (.int p6), .val (.int k0), .val (.int k1), .val (.int k2), .val (.ref b1), .val (.int 3), .val (.int 1), z12, .val (.int wd), .val (.ref sb147), .val (.ref b148), .val (.int 1), .val (.int (own_b (k1 = wd)))] [(.ref sb147), (.ref sb147)])) X153 hx rfl rfl rfl (pc0 := 190) (pc' := 193) (same := true) rfl (hb hby at_190) rfl (decide_eq_true rfl) (by decide) (by decide) kt) ?_
      refine Run.x_iconst (q := 194) X153 hx (hb hby at_193) (z := (1 : Int32)) rfl rfl ?_
      refine Run.x_goto (q := 198) X153 hx (hb hby at_194) (by decide) (by decide) ?_
      refine Run.retN X153 hx hlk e153 (t := .boolean) hret (by simp) (z' := (1 : Int32)) (by decide) (hb hby at_198) (by decide) (by decide) ?_
      exact ⟨rfl, N151⟩
     ·skip
      refine Run.x_icmpYes (q := 148) X150 hx (hb hby at_141) (feq hc141).2 (by decide) (by decide) ?_
      refine Run.x_iconst (q := 149) X150 hx (hb hby at_148) (z := (0 : Int32)) rfl rfl ?_
      refine Run.x_istore (q := 151) X150 hx #[.val (.int p1), .val (.int p2), .val (.int p3), .val (.int p4), .val (.int p5), .val (.int p6), .val (.int k0), .val (.int k1), .val (.int k2), .val (.ref b1), .val (.int 3), .val (.int 1), z12, .val (.int wd), .val (.ref sb147), .val (.ref b148), .val (.int 0), .unset] (hb hby at_149) rfl rfl ?_
      refine Run.x_goto (q := 157) X150 hx (hb hby at_151) (by decide) (by decide) ?_
      refine Run.x_aload (q := 159) X150 hx (hb hby at_157) rfl rfl rfl ?_
      refine Run.x_iload (q := 161) X150 hx (hb hby at_159) rfl rfl ?_
      replace E_b148 := E_b148.wr W150
      replace F149_0 := F149_0.other W150 (Or.inr (slot_ne (Or.inr (wm43 hw)) (Or.inl (wm45 hw)) (by decide) (t := (.object "java/lang/String")) (t' := .int) (by decide) (by decide)))
      replace Es147 := ((Es147.ext E148).keep K149).wr W150
      replace Fc147 := ((Fc147.ext E148).keep K149 (ninS ne_sb147_b148 nin0)).other W150 (Or.inl ne_sb147_b148)
      replace Fv147 := ((Fv147.ext E148).keep K149 (ninS ne_sb147_b148 nin0)).other W150 (Or.inl ne_sb147_b148)
      replace Ab147 := ((Ab147.ext E148).keep K149 (ninS ne_bts147_b148 nin0)).other W150 ne_bts147_b148
      replace S_COMPACT_STRINGS := S_COMPACT_STRINGS.wr W150
      replace S_SIOOBE_FORMATTER := S_SIOOBE_FORMATTER.wr W150
      refine Run.callVI (q := 164) X150 hx hZ e150 (y := (⟨"com/example/sayso/sayso/TextCursor", "at", "(C)Z"⟩ : MethodName)) (z := (⟨"com/example/sayso/sayso/TextCursor", "at", "(C)Z"⟩ : MethodName)) hown (wm46 hw) (wm47 hw) (notFace_of_selects (args := #[]) (mvT hZ (wm49 hw))) (wm49 hw) (wm48 hw) (wm37 hw) (wm50 hw) (by decide) (a := b148) E_b148 (argsL := [(.int wd)]) (rest := []) (c_atl0 l Z a0 hw b148 wd h150 n0 Z150 (1 : Int32) (3 : Int32) sb147 cp bts147 [(.int k0.toInt8.toInt32), (.int k1.toInt8.toInt32), (.int k2.toInt8.toInt32)] (3 : Int32) sf 1 k1.toInt8.toInt32 k1 E_b148 F149_1 F149_0 Es147 Fc147 Fv147 Ab147 S_COMPACT_STRINGS S_SIOOBE_FORMATTER hcp (by decide) (by decide) hsf rfl (by decide) rfl (by decide) (by decide) (own_lat rk1 ha1) (own_nr rk1)) pd_19 rfl (by rw [hml]; rfl) (W := 0) rfl (by decide) (by decide) (by decide) (by decide) (hb hby at_161) rfl rfl fun T154 L154 X154 M154 e154 => ?_
      have N154 := Fr.app N150 M154
      refine Run.x_istore (q := 166) X154 hx #[.val (.int p1), .val (.int p2), .val (.int p3), .val (.int p4), .val (.int p5), .val (.int p6), .val (.int k0), .val (.int k1), .val (.int k2), .val (.ref b1), .val (.int 3), .val (.int 1), z12, .val (.int wd), .val (.ref sb147), .val (.ref b148), .val (.int 0), .val (.int (own_b (k1 = wd)))] (hb hby at_164) rfl rfl ?_
      refine Run.x_iload (q := 168) X154 hx (hb hby at_166) rfl rfl ?_
      refine Run.x_iload (q := 170) X154 hx (hb hby at_168) rfl rfl ?_
      refine Run.x_icmpNo (q := 173) X154 hx (hb hby at_170) (teq (own_b0 hc141)).2 rfl ?_
      refine Run.x_aload (q := 175) X154 hx (hb hby at_173) rfl rfl rfl ?_
      refine Run.z_getF (q := 178) X154 hx hZ e154 hown (wm44 hw) F149_1 (hb hby at_175) rfl fun T155 X155 e155 => ?_
      refine Run.x_iload (q := 180) X155 hx (hb hby at_178) rfl rfl ?_
      refine Run.x_icmpNo (q := 183) X155 hx (hb hby at_180) (teq (by decide : (1 : Int32) = (1 : Int32))).2 rfl ?_
      refine Run.x_aload (q := 185) X155 hx (hb hby at_183) rfl rfl rfl ?_
      refine Run.z_getF (q := 188) X155 hx hZ e155 hown (wm84 hw) F149_0 (hb hby at_185) rfl fun T156 X156 e156 => ?_
      refine Run.x_aload (q := 190) X156 hx (hb hby at_188) rfl rfl rfl ?_
      refine Run.st (B := T156.setTop (mkF m 193 #[.val (.int p1), .val (.int p2), .val (.int p3), .val (.int p4), .val (.int p5), .val (.int p6), .val (.int k0), .val (.int k1), .val (.int k2), .val (.ref b1), .val (.int 3), .val (.int 1), z12, .val (.int wd), .val (.ref sb147), .val (.ref b148), .val (.int 0), .val (.int (own_b (k1 = wd)))] [])) (fun t kt => Jvm.RoadKit.acmp (g := (mkF m 190 #[.val (.int p1), .val (.int p2), .val (.int p3), .val (.int p4), .val (.int p5), .val (.int p6), .val (.int k0), .val (.int k1), .val (.int k2), .val (.ref b1), .val (.int 3), .val (.int 1), z12, .val (.int wd), .val (.ref sb147), .val (.ref b148), .val (.int 0), .val (.int (own_b (k1 = wd)))] [(.ref sb147), (.ref sb147)])) X156 hx rfl rfl rfl (pc0 := 190) (pc' := 193) (same := true) rfl (hb hby at_190) rfl (decide_eq_true rfl) (by decide) (by decide) kt) ?_
      refine Run.x_iconst (q := 194) X156 hx (hb hby at_193) (z := (1 : Int32)) rfl rfl ?_
      refine Run.x_goto (q := 198) X156 hx (hb hby at_194) (by decide) (by decide) ?_
      refine Run.retN X156 hx hlk e156 (t := .boolean) hret (by simp) (z' := (1 : Int32)) (by decide) (hb hby at_198) (by decide) (by decide) ?_
      exact ⟨rfl, N154⟩
    ·skip
     show Run p e below s _ _ _ (T4.setTop (mkF m 96 #[.val (.int p1), .val (.int p2), .val (.int p3), .val (.int p4), .val (.int p5), .val (.int p6), .val (.int k0), .val (.int k1), .val (.int k2), .val (.ref b1), .val (.int 3), .val (.int 2), z12, .val (.int wd), .unset, .unset, .unset, .unset] []))
     refine Run.x_iload (q := 98) X4 hx (hb hby at_96) rfl rfl ?_
     refine Run.x_iload (q := 100) X4 hx (hb hby at_98) rfl rfl ?_
     refine Run.x_iload (q := 102) X4 hx (hb hby at_100) rfl rfl ?_
     refine Run.x_iload (q := 104) X4 hx (hb hby at_102) rfl rfl ?_
     replace S_COMPACT_STRINGS := (((S_COMPACT_STRINGS.ext E1).wr W2).wr W3).wr W4
     refine Run.callS X4 hx hZ e4 (y := (⟨"com/example/sayso/sayso/TextCursorAtPinLaw", "make", "(ICCC)Ljava/lang/String;"⟩ : MethodName)) hown (wm2 hw) (wm3 hw) (wm4 hw) (wm5 hw) (by decide) (argsL := [(.int 3), (.int k0), (.int k1), (.int k2)]) (rest := []) (c_mk_3_0 l Z a0 hw k0 k1 k2 h4 n0 Z4 cp S_COMPACT_STRINGS hcp ha0 ha1 ha2 rk0 rk1 rk2) pd_17 rfl (by rw [hml]; rfl) (W := 0) rfl (by decide) (by decide) (by decide) (by decide) (hb hby at_104) rfl ?_
     intro T157 v157 L157 X157 q157
     obtain ⟨sb157, bts157, rfl, M157, K157, sz157, Es157, Fv157, Fc157, Ab157⟩ := q157
     have N157 := Fr.app N4 M157
     show Run p e below s _ _ _ (T157.setTop (mkF m 107 #[.val (.int p1), .val (.int p2), .val (.int p3), .val (.int p4), .val (.int p5), .val (.int p6), .val (.int k0), .val (.int k1), .val (.int k2), .val (.ref b1), .val (.int 3), .val (.int 2), z12, .val (.int wd), .unset, .unset, .unset, .unset] [(.ref sb157)]))
     have ne_b1_sb157 : b1 ≠ sb157 := Nat.ne_of_lt (Nat.lt_of_lt_of_le A_b1.lt sz157)
     replace S_COMPACT_STRINGS := Sta_keep S_COMPACT_STRINGS K157 all0
     replace S_SIOOBE_FORMATTER := (((S_SIOOBE_FORMATTER.ext E1).wr W2).wr W3).wr W4
     replace S_SIOOBE_FORMATTER := Sta_keep S_SIOOBE_FORMATTER K157 all0
     replace S__assertionsDisabled := (((S__assertionsDisabled.ext E1).wr W2).wr W3).wr W4
     replace S__assertionsDisabled := Sta_keep S__assertionsDisabled K157 all0
     replace S_HI_BYTE_SHIFT := (((S_HI_BYTE_SHIFT.ext E1).wr W2).wr W3).wr W4
     replace S_HI_BYTE_SHIFT := Sta_keep S_HI_BYTE_SHIFT K157 all0
     replace S_LO_BYTE_SHIFT := (((S_LO_BYTE_SHIFT.ext E1).wr W2).wr W3).wr W4
     replace S_LO_BYTE_SHIFT := Sta_keep S_LO_BYTE_SHIFT K157 all0
     have Z157 : n0 ≤ T157.heap.size := Nat.le_trans Z4 K157.1
     replace KP := KP.trans K157 all0
     refine Run.x_astore (q := 109) X157 hx #[.val (.int p1), .val (.int p2), .val (.int p3), .val (.int p4), .val (.int p5), .val (.int p6), .val (.int k0), .val (.int k1), .val (.int k2), .val (.ref b1), .val (.int 3), .val (.int 2), z12, .val (.int wd), .val (.ref sb157), .unset, .unset, .unset] (hb hby at_107) rfl rfl rfl ?_
     obtain ⟨T158, h158, X158, e158, E158, A158, D158, -, st158⟩ := newO X157 hx hZ hown (wm35 hw) (wm36 hw) (wm37 hw) rfl (g := (mkF m 109 #[.val (.int p1), .val (.int p2), .val (.int p3), .val (.int p4), .val (.int p5), .val (.int p6), .val (.int k0), .val (.int k1), .val (.int k2), .val (.ref b1), .val (.int 3), .val (.int 2), z12, .val (.int wd), .val (.ref sb157), .unset, .unset, .unset] [])) rfl (hb hby at_109) (by decide) (by decide)
     obtain ⟨b158, gg158⟩ : ∃ z, z = T157.heap.size := ⟨_, rfl⟩
     rw [← gg158] at A158 D158 st158
     have g_b158 : n0 ≤ b158 := Nat.le_trans Z157 (Nat.le_of_eq gg158.symm)
     replace A_b1 := A_b1.keep K157 nin0
     have ne_b1_b158 : b1 ≠ b158 := Nat.ne_of_lt (Nat.lt_of_lt_of_le A_b1.lt (Nat.le_of_eq gg158.symm))
     have ne_sb157_b158 : sb157 ≠ b158 := Nat.ne_of_lt (Nat.lt_of_lt_of_le Es157.lt (Nat.le_of_eq gg158.symm))
     have ne_bts157_b158 : bts157 ≠ b158 := Nat.ne_of_lt (Nat.lt_of_lt_of_le Ab157.lt (Nat.le_of_eq gg158.symm))
     have sz_b158 : h0.size ≤ b158 := Nat.le_trans KP.1 (Nat.le_of_eq gg158.symm)
     have Z158 : n0 ≤ h158.size := Nat.le_trans Z157 E158.1
     replace KP := KP.ext E158
     have E_b158 := A158
     have F_b158_text : Fld Z h158 b158 "com/example/sayso/sayso/TextCursor" "text" "Ljava/lang/String;" .null := D158 (Or.inr (wm43 hw)) (ty := (.object "java/lang/String")) (by decide)
     have F_b158_position : Fld Z h158 b158 "com/example/sayso/sayso/TextCursor" "position" "I" (.int 0) := D158 (Or.inl (wm45 hw)) (ty := .int) (by decide)
     refine Run.st st158 ?_
     show Run p e below s _ _ _ (T158.setTop (mkF m 112 #[.val (.int p1), .val (.int p2), .val (.int p3), .val (.int p4), .val (.int p5), .val (.int p6), .val (.int k0), .val (.int k1), .val (.int k2), .val (.ref b1), .val (.int 3), .val (.int 2), z12, .val (.int wd), .val (.ref sb157), .unset, .unset, .unset] [(.ref b158)]))
     refine Run.x_dup (q := 113) X158 hx (hb hby at_112) rfl rfl ?_
     refine Run.x_aload (q := 115) X158 hx (hb hby at_113) rfl rfl rfl ?_
     refine Run.callC X158 hx hZ e158 (y := (⟨"com/example/sayso/sayso/TextCursor", "<init>", "(Ljava/lang/String;)V"⟩ : MethodName)) hown rfl (wm38 hw) (wm39 hw) (wm37 hw) (wm40 hw) (by decide) (a := b158) (argsL := [(.ref sb157)]) (rest := [(.ref b158)]) (c_tci l Z a0 hw b158 sb157 h158 n0 Z158 E_b158 F_b158_text F_b158_position g_b158) pd_18 rfl (by rw [hml]; rfl) (W := 1) rfl (by decide) (by decide) (by decide) (by decide) (hb hby at_115) rfl ?_
     intro T159 v159 L159 X159 q159
     obtain ⟨rfl, M159, K159, E159, F159_0, F159_1⟩ := q159
     have N159 := Fr.app N157 M159
     show Run p e below s _ _ _ (T159.setTop (mkF m 118 #[.val (.int p1), .val (.int p2), .val (.int p3), .val (.int p4), .val (.int p5), .val (.int p6), .val (.int k0), .val (.int k1), .val (.int k2), .val (.ref b1), .val (.int 3), .val (.int 2), z12, .val (.int wd), .val (.ref sb157), .unset, .unset, .unset] [(.ref b158)]))
     replace S_COMPACT_STRINGS := S_COMPACT_STRINGS.ext E158
     replace S_COMPACT_STRINGS := Sta_keep S_COMPACT_STRINGS K159 (allS (Exa_ns E_b158) all0)
     replace S_SIOOBE_FORMATTER := S_SIOOBE_FORMATTER.ext E158
     replace S_SIOOBE_FORMATTER := Sta_keep S_SIOOBE_FORMATTER K159 (allS (Exa_ns E_b158) all0)
     replace S__assertionsDisabled := S__assertionsDisabled.ext E158
     replace S__assertionsDisabled := Sta_keep S__assertionsDisabled K159 (allS (Exa_ns E_b158) all0)
     replace S_HI_BYTE_SHIFT := S_HI_BYTE_SHIFT.ext E158
     replace S_HI_BYTE_SHIFT := Sta_keep S_HI_BYTE_SHIFT K159 (allS (Exa_ns E_b158) all0)
     replace S_LO_BYTE_SHIFT := S_LO_BYTE_SHIFT.ext E158
     replace S_LO_BYTE_SHIFT := Sta_keep S_LO_BYTE_SHIFT K159 (allS (Exa_ns E_b158) all0)
     have Z159 : n0 ≤ T159.heap.size := Nat.le_trans Z158 K159.1
     replace KP := KP.trans K159 (allS (Or.inr sz_b158) all0)
     refine Run.x_astore (q := 120) X159 hx #[.val (.int p1), .val (.int p2), .val (.int p3), .val (.int p4), .val (.int p5), .val (.int p6), .val (.int k0), .val (.int k1), .val (.int k2), .val (.ref b1), .val (.int 3), .val (.int 2), z12, .val (.int wd), .val (.ref sb157), .val (.ref b158), .unset, .unset] (hb hby at_118) rfl rfl rfl ?_
     refine Run.x_aload (q := 122) X159 hx (hb hby at_120) rfl rfl rfl ?_
     refine Run.x_iload (q := 124) X159 hx (hb hby at_122) rfl rfl ?_
     replace E_b158 := E_b158.keep K159
     obtain ⟨T160, h160, X160, e160, W160, st160⟩ := putF X159 hx hZ hown (host := "") (Or.inl (wm44 hw)) Via.refl rfl F159_1 E_b158 (Or.inl (wm45 hw)) (wm36 hw) (ty := .int) (by decide) rfl rfl (g := (mkF m 124 #[.val (.int p1), .val (.int p2), .val (.int p3), .val (.int p4), .val (.int p5), .val (.int p6), .val (.int k0), .val (.int k1), .val (.int k2), .val (.ref b1), .val (.int 3), .val (.int 2), z12, .val (.int wd), .val (.ref sb157), .val (.ref b158), .unset, .unset] [(.int 2), (.ref b158)])) rfl rfl (hb hby at_124)
     replace F159_1 := F159_1.same W160
     have Z160 : n0 ≤ h160.size := Nat.le_trans Z159 (Nat.le_of_eq W160.size.symm)
     replace KP := KP.wr W160 (Or.inr sz_b158)
     have N160 := Fr.snoc X160 N159 g_b158
     refine Run.st st160 ?_
     show Run p e below s _ _ _ (T160.setTop (mkF m 127 #[.val (.int p1), .val (.int p2), .val (.int p3), .val (.int p4), .val (.int p5), .val (.int p6), .val (.int k0), .val (.int k1), .val (.int k2), .val (.ref b1), .val (.int 3), .val (.int 2), z12, .val (.int wd), .val (.ref sb157), .val (.ref b158), .unset, .unset] []))
     refine Run.x_iload (q := 129) X160 hx (hb hby at_127) rfl rfl ?_
     refine Run.x_iload (q := 131) X160 hx (hb hby at_129) rfl rfl ?_
     refine Run.x_icmpNo (q := 134) X160 hx (hb hby at_131) (tlt (by decide : (2 : Int32) < (3 : Int32))).2.1 rfl ?_
     refine Run.x_aload (q := 136) X160 hx (hb hby at_134) rfl rfl rfl ?_
     refine Run.x_iload (q := 138) X160 hx (hb hby at_136) rfl rfl ?_
     replace A_b1 := ((A_b1.ext E158).keep K159 (ninS ne_b1_b158 nin0)).other W160 ne_b1_b158
     refine Run.y_ldC (q := 139) X160 hx hZ e160 A_b1 (i := 2) (v := (.int k2)) (by decide) rfl (hb hby at_138) rfl ?_
     refine Run.x_iload (q := 141) X160 hx (hb hby at_139) rfl rfl ?_
     by_cases hc141 : k2 = wd
     ·skip
      refine Run.x_icmpNo (q := 144) X160 hx (hb hby at_141) (teq hc141).2 rfl ?_
      refine Run.x_iconst (q := 145) X160 hx (hb hby at_144) (z := (1 : Int32)) rfl rfl ?_
      refine Run.x_goto (q := 149) X160 hx (hb hby at_145) (by decide) (by decide) ?_
      refine Run.x_istore (q := 151) X160 hx #[.val (.int p1), .val (.int p2), .val (.int p3), .val (.int p4), .val (.int p5), .val (.int p6), .val (.int k0), .val (.int k1), .val (.int k2), .val (.ref b1), .val (.int 3), .val (.int 2), z12, .val (.int wd), .val (.ref sb157), .val (.ref b158), .val (.int 1), .unset] (hb hby at_149) rfl rfl ?_
      refine Run.x_goto (q := 157) X160 hx (hb hby at_151) (by decide) (by decide) ?_
      refine Run.x_aload (q := 159) X160 hx (hb hby at_157) rfl rfl rfl ?_
      refine Run.x_iload (q := 161) X160 hx (hb hby at_159) rfl rfl ?_
      replace E_b158 := E_b158.wr W160
      replace F159_0 := F159_0.other W160 (Or.inr (slot_ne (Or.inr (wm43 hw)) (Or.inl (wm45 hw)) (by decide) (t := (.object "java/lang/String")) (t' := .int) (by decide) (by decide)))
      replace Es157 := ((Es157.ext E158).keep K159).wr W160
      replace Fc157 := ((Fc157.ext E158).keep K159 (ninS ne_sb157_b158 nin0)).other W160 (Or.inl ne_sb157_b158)
      replace Fv157 := ((Fv157.ext E158).keep K159 (ninS ne_sb157_b158 nin0)).other W160 (Or.inl ne_sb157_b158)
      replace Ab157 := ((Ab157.ext E158).keep K159 (ninS ne_bts157_b158 nin0)).other W160 ne_bts157_b158
      replace S_COMPACT_STRINGS := S_COMPACT_STRINGS.wr W160
      replace S_SIOOBE_FORMATTER := S_SIOOBE_FORMATTER.wr W160
      refine Run.callVI (q := 164) X160 hx hZ e160 (y := (⟨"com/example/sayso/sayso/TextCursor", "at", "(C)Z"⟩ : MethodName)) (z := (⟨"com/example/sayso/sayso/TextCursor", "at", "(C)Z"⟩ : MethodName)) hown (wm46 hw) (wm47 hw) (notFace_of_selects (args := #[]) (mvT hZ (wm49 hw))) (wm49 hw) (wm48 hw) (wm37 hw) (wm50 hw) (by decide) (a := b158) E_b158 (argsL := [(.int wd)]) (rest := []) (c_atl0 l Z a0 hw b158 wd h160 n0 Z160 (2 : Int32) (3 : Int32) sb157 cp bts157 [(.int k0.toInt8.toInt32), (.int k1.toInt8.toInt32), (.int k2.toInt8.toInt32)] (3 : Int32) sf 2 k2.toInt8.toInt32 k2 E_b158 F159_1 F159_0 Es157 Fc157 Fv157 Ab157 S_COMPACT_STRINGS S_SIOOBE_FORMATTER hcp (by decide) (by decide) hsf rfl (by decide) rfl (by decide) (by decide) (own_lat rk2 ha2) (own_nr rk2)) pd_19 rfl (by rw [hml]; rfl) (W := 0) rfl (by decide) (by decide) (by decide) (by decide) (hb hby at_161) rfl rfl fun T161 L161 X161 M161 e161 => ?_
      have N161 := Fr.app N160 M161
      refine Run.x_istore (q := 166) X161 hx #[.val (.int p1), .val (.int p2), .val (.int p3), .val (.int p4), .val (.int p5), .val (.int p6), .val (.int k0), .val (.int k1), .val (.int k2), .val (.ref b1), .val (.int 3), .val (.int 2), z12, .val (.int wd), .val (.ref sb157), .val (.ref b158), .val (.int 1), .val (.int (own_b (k2 = wd)))] (hb hby at_164) rfl rfl ?_
      refine Run.x_iload (q := 168) X161 hx (hb hby at_166) rfl rfl ?_
      refine Run.x_iload (q := 170) X161 hx (hb hby at_168) rfl rfl ?_
      refine Run.x_icmpNo (q := 173) X161 hx (hb hby at_170) (teq (own_b1 hc141)).2 rfl ?_
      refine Run.x_aload (q := 175) X161 hx (hb hby at_173) rfl rfl rfl ?_
      refine Run.z_getF (q := 178) X161 hx hZ e161 hown (wm44 hw) F159_1 (hb hby at_175) rfl fun T162 X162 e162 => ?_
      refine Run.x_iload (q := 180) X162 hx (hb hby at_178) rfl rfl ?_
      refine Run.x_icmpNo (q := 183) X162 hx (hb hby at_180) (teq (by decide : (2 : Int32) = (2 : Int32))).2 rfl ?_
      refine Run.x_aload (q := 185) X162 hx (hb hby at_183) rfl rfl rfl ?_
      refine Run.z_getF (q := 188) X162 hx hZ e162 hown (wm84 hw) F159_0 (hb hby at_185) rfl fun T163 X163 e163 => ?_
      refine Run.x_aload (q := 190) X163 hx (hb hby at_188) rfl rfl rfl ?_
      refine Run.st (B := T163.setTop (mkF m 193 #[.val (.int p1), .val (.int p2), .val (.int p3), .val (.int p4), .val (.int p5), .val (.int p6), .val (.int k0), .val (.int k1), .val (.int k2), .val (.ref b1), .val (.int 3), .val (.int 2), z12, .val (.int wd), .val (.ref sb157), .val (.ref b158), .val (.int 1), .val (.int (own_b (k2 = wd)))] [])) (fun t kt => Jvm.RoadKit.acmp (g := (mkF m 190 #[.val (.int p1), .val (.int p2), .val (.int p3), .val (.int p4), .val (.int p5), .val (.int p6), .val (.int k0), .val (.int k1), .val (.int k2), .val (.ref b1), .val (.int 3), .val (.int 2), z12, .val (.int wd), .val (.ref sb157), .val (.ref b158), .val (.int 1), .val (.int (own_b (k2 = wd)))] [(.ref sb157), (.ref sb157)])) X163 hx rfl rfl rfl (pc0 := 190) (pc' := 193) (same := true) rfl (hb hby at_190) rfl (decide_eq_true rfl) (by decide) (by decide) kt) ?_
      refine Run.x_iconst (q := 194) X163 hx (hb hby at_193) (z := (1 : Int32)) rfl rfl ?_
      refine Run.x_goto (q := 198) X163 hx (hb hby at_194) (by decide) (by decide) ?_
      refine Run.retN X163 hx hlk e163 (t := .boolean) hret (by simp) (z' := (1 : Int32)) (by decide) (hb hby at_198) (by decide) (by decide) ?_
      exact ⟨rfl, N161⟩
     ·skip
      refine Run.x_icmpYes (q := 148) X160 hx (hb hby at_141) (feq hc141).2 (by decide) (by decide) ?_
      refine Run.x_iconst (q := 149) X160 hx (hb hby at_148) (z := (0 : Int32)) rfl rfl ?_
      refine Run.x_istore (q := 151) X160 hx #[.val (.int p1), .val (.int p2), .val (.int p3), .val (.int p4), .val (.int p5), .val (.int p6), .val (.int k0), .val (.int k1), .val (.int k2), .val (.ref b1), .val (.int 3), .val (.int 2), z12, .val (.int wd), .val (.ref sb157), .val (.ref b158), .val (.int 0), .unset] (hb hby at_149) rfl rfl ?_
      refine Run.x_goto (q := 157) X160 hx (hb hby at_151) (by decide) (by decide) ?_
      refine Run.x_aload (q := 159) X160 hx (hb hby at_157) rfl rfl rfl ?_
      refine Run.x_iload (q := 161) X160 hx (hb hby at_159) rfl rfl ?_
      replace E_b158 := E_b158.wr W160
      replace F159_0 := F159_0.other W160 (Or.inr (slot_ne (Or.inr (wm43 hw)) (Or.inl (wm45 hw)) (by decide) (t := (.object "java/lang/String")) (t' := .int) (by decide) (by decide)))
      replace Es157 := ((Es157.ext E158).keep K159).wr W160
      replace Fc157 := ((Fc157.ext E158).keep K159 (ninS ne_sb157_b158 nin0)).other W160 (Or.inl ne_sb157_b158)
      replace Fv157 := ((Fv157.ext E158).keep K159 (ninS ne_sb157_b158 nin0)).other W160 (Or.inl ne_sb157_b158)
      replace Ab157 := ((Ab157.ext E158).keep K159 (ninS ne_bts157_b158 nin0)).other W160 ne_bts157_b158
      replace S_COMPACT_STRINGS := S_COMPACT_STRINGS.wr W160
      replace S_SIOOBE_FORMATTER := S_SIOOBE_FORMATTER.wr W160
      refine Run.callVI (q := 164) X160 hx hZ e160 (y := (⟨"com/example/sayso/sayso/TextCursor", "at", "(C)Z"⟩ : MethodName)) (z := (⟨"com/example/sayso/sayso/TextCursor", "at", "(C)Z"⟩ : MethodName)) hown (wm46 hw) (wm47 hw) (notFace_of_selects (args := #[]) (mvT hZ (wm49 hw))) (wm49 hw) (wm48 hw) (wm37 hw) (wm50 hw) (by decide) (a := b158) E_b158 (argsL := [(.int wd)]) (rest := []) (c_atl0 l Z a0 hw b158 wd h160 n0 Z160 (2 : Int32) (3 : Int32) sb157 cp bts157 [(.int k0.toInt8.toInt32), (.int k1.toInt8.toInt32), (.int k2.toInt8.toInt32)] (3 : Int32) sf 2 k2.toInt8.toInt32 k2 E_b158 F159_1 F159_0 Es157 Fc157 Fv157 Ab157 S_COMPACT_STRINGS S_SIOOBE_FORMATTER hcp (by decide) (by decide) hsf rfl (by decide) rfl (by decide) (by decide) (own_lat rk2 ha2) (own_nr rk2)) pd_19 rfl (by rw [hml]; rfl) (W := 0) rfl (by decide) (by decide) (by decide) (by decide) (hb hby at_161) rfl rfl fun T164 L164 X164 M164 e164 => ?_
      have N164 := Fr.app N160 M164
      refine Run.x_istore (q := 166) X164 hx #[.val (.int p1), .val (.int p2), .val (.int p3), .val (.int p4), .val (.int p5), .val (.int p6), .val (.int k0), .val (.int k1), .val (.int k2), .val (.ref b1), .val (.int 3), .val (.int 2), z12, .val (.int wd), .val (.ref sb157), .val (.ref b158), .val (.int 0), .val (.int (own_b (k2 = wd)))] (hb hby at_164) rfl rfl ?_
      refine Run.x_iload (q := 168) X164 hx (hb hby at_166) rfl rfl ?_
      refine Run.x_iload (q := 170) X164 hx (hb hby at_168) rfl rfl ?_
      refine Run.x_icmpNo (q := 173) X164 hx (hb hby at_170) (teq (own_b0 hc141)).2 rfl ?_
      refine Run.x_aload (q := 175) X164 hx (hb hby at_173) rfl rfl rfl ?_
      refine Run.z_getF (q := 178) X164 hx hZ e164 hown (wm44 hw) F159_1 (hb hby at_175) rfl fun T165 X165 e165 => ?_
      refine Run.x_iload (q := 180) X165 hx (hb hby at_178) rfl rfl ?_
      refine Run.x_icmpNo (q := 183) X165 hx (hb hby at_180) (teq (by decide : (2 : Int32) = (2 : Int32))).2 rfl ?_
      refine Run.x_aload (q := 185) X165 hx (hb hby at_183) rfl rfl rfl ?_
      refine Run.z_getF (q := 188) X165 hx hZ e165 hown (wm84 hw) F159_0 (hb hby at_185) rfl fun T166 X166 e166 => ?_
      refine Run.x_aload (q := 190) X166 hx (hb hby at_188) rfl rfl rfl ?_
      refine Run.st (B := T166.setTop (mkF m 193 #[.val (.int p1), .val (.int p2), .val (.int p3), .val (.int p4), .val (.int p5), .val (.int p6), .val (.int k0), .val (.int k1), .val (.int k2), .val (.ref b1), .val (.int 3), .val (.int 2), z12, .val (.int wd), .val (.ref sb157), .val (.ref b158), .val (.int 0), .val (.int (own_b (k2 = wd)))] [])) (fun t kt => Jvm.RoadKit.acmp (g := (mkF m 190 #[.val (.int p1), .val (.int p2), .val (.int p3), .val (.int p4), .val (.int p5), .val (.int p6), .val (.int k0), .val (.int k1), .val (.int k2), .val (.ref b1), .val (.int 3), .val (.int 2), z12, .val (.int wd), .val (.ref sb157), .val (.ref b158), .val (.int 0), .val (.int (own_b (k2 = wd)))] [(.ref sb157), (.ref sb157)])) X166 hx rfl rfl rfl (pc0 := 190) (pc' := 193) (same := true) rfl (hb hby at_190) rfl (decide_eq_true rfl) (by decide) (by decide) kt) ?_
      refine Run.x_iconst (q := 194) X166 hx (hb hby at_193) (z := (1 : Int32)) rfl rfl ?_
      refine Run.x_goto (q := 198) X166 hx (hb hby at_194) (by decide) (by decide) ?_
      refine Run.retN X166 hx hlk e166 (t := .boolean) hret (by simp) (z' := (1 : Int32)) (by decide) (hb hby at_198) (by decide) (by decide) ?_
      exact ⟨rfl, N164⟩
    ·skip
     show Run p e below s _ _ _ (T4.setTop (mkF m 96 #[.val (.int p1), .val (.int p2), .val (.int p3), .val (.int p4), .val (.int p5), .val (.int p6), .val (.int k0), .val (.int k1), .val (.int k2), .val (.ref b1), .val (.int 3), .val (.int 3), z12, .val (.int wd), .unset, .unset, .unset, .unset] []))
     refine Run.x_iload (q := 98) X4 hx (hb hby at_96) rfl rfl ?_
     refine Run.x_iload (q := 100) X4 hx (hb hby at_98) rfl rfl ?_
     refine Run.x_iload (q := 102) X4 hx (hb hby at_100) rfl rfl ?_
     refine Run.x_iload (q := 104) X4 hx (hb hby at_102) rfl rfl ?_
     replace S_COMPACT_STRINGS := (((S_COMPACT_STRINGS.ext E1).wr W2).wr W3).wr W4
     refine Run.callS X4 hx hZ e4 (y := (⟨"com/example/sayso/sayso/TextCursorAtPinLaw", "make", "(ICCC)Ljava/lang/String;"⟩ : MethodName)) hown (wm2 hw) (wm3 hw) (wm4 hw) (wm5 hw) (by decide) (argsL := [(.int 3), (.int k0), (.int k1), (.int k2)]) (rest := []) (c_mk_3_0 l Z a0 hw k0 k1 k2 h4 n0 Z4 cp S_COMPACT_STRINGS hcp ha0 ha1 ha2 rk0 rk1 rk2) pd_17 rfl (by rw [hml]; rfl) (W := 0) rfl (by decide) (by decide) (by decide) (by decide) (hb hby at_104) rfl ?_
     intro T167 v167 L167 X167 q167
     obtain ⟨sb167, bts167, rfl, M167, K167, sz167, Es167, Fv167, Fc167, Ab167⟩ := q167
     have N167 := Fr.app N4 M167
     show Run p e below s _ _ _ (T167.setTop (mkF m 107 #[.val (.int p1), .val (.int p2), .val (.int p3), .val (.int p4), .val (.int p5), .val (.int p6), .val (.int k0), .val (.int k1), .val (.int k2), .val (.ref b1), .val (.int 3), .val (.int 3), z12, .val (.int wd), .unset, .unset, .unset, .unset] [(.ref sb167)]))
     have ne_b1_sb167 : b1 ≠ sb167 := Nat.ne_of_lt (Nat.lt_of_lt_of_le A_b1.lt sz167)
     replace S_COMPACT_STRINGS := Sta_keep S_COMPACT_STRINGS K167 all0
     replace S_SIOOBE_FORMATTER := (((S_SIOOBE_FORMATTER.ext E1).wr W2).wr W3).wr W4
     replace S_SIOOBE_FORMATTER := Sta_keep S_SIOOBE_FORMATTER K167 all0
     replace S__assertionsDisabled := (((S__assertionsDisabled.ext E1).wr W2).wr W3).wr W4
     replace S__assertionsDisabled := Sta_keep S__assertionsDisabled K167 all0
     replace S_HI_BYTE_SHIFT := (((S_HI_BYTE_SHIFT.ext E1).wr W2).wr W3).wr W4
     replace S_HI_BYTE_SHIFT := Sta_keep S_HI_BYTE_SHIFT K167 all0
     replace S_LO_BYTE_SHIFT := (((S_LO_BYTE_SHIFT.ext E1).wr W2).wr W3).wr W4
     replace S_LO_BYTE_SHIFT := Sta_keep S_LO_BYTE_SHIFT K167 all0
     have Z167 : n0 ≤ T167.heap.size := Nat.le_trans Z4 K167.1
     replace KP := KP.trans K167 all0
     refine Run.x_astore (q := 109) X167 hx #[.val (.int p1), .val (.int p2), .val (.int p3), .val (.int p4), .val (.int p5), .val (.int p6), .val (.int k0), .val (.int k1), .val (.int k2), .val (.ref b1), .val (.int 3), .val (.int 3), z12, .val (.int wd), .val (.ref sb167), .unset, .unset, .unset] (hb hby at_107) rfl rfl rfl ?_
     obtain ⟨T168, h168, X168, e168, E168, A168, D168, -, st168⟩ := newO X167 hx hZ hown (wm35 hw) (wm36 hw) (wm37 hw) rfl (g := (mkF m 109 #[.val (.int p1), .val (.int p2), .val (.int p3), .val (.int p4), .val (.int p5), .val (.int p6), .val (.int k0), .val (.int k1), .val (.int k2), .val (.ref b1), .val (.int 3), .val (.int 3), z12, .val (.int wd), .val (.ref sb167), .unset, .unset, .unset] [])) rfl (hb hby at_109) (by decide) (by decide)
     obtain ⟨b168, gg168⟩ : ∃ z, z = T167.heap.size := ⟨_, rfl⟩
     rw [← gg168] at A168 D168 st168
     have g_b168 : n0 ≤ b168 := Nat.le_trans Z167 (Nat.le_of_eq gg168.symm)
     replace A_b1 := A_b1.keep K167 nin0
     have ne_b1_b168 : b1 ≠ b168 := Nat.ne_of_lt (Nat.lt_of_lt_of_le A_b1.lt (Nat.le_of_eq gg168.symm))
     have ne_sb167_b168 : sb167 ≠ b168 := Nat.ne_of_lt (Nat.lt_of_lt_of_le Es167.lt (Nat.le_of_eq gg168.symm))
     have ne_bts167_b168 : bts167 ≠ b168 := Nat.ne_of_lt (Nat.lt_of_lt_of_le Ab167.lt (Nat.le_of_eq gg168.symm))
     have sz_b168 : h0.size ≤ b168 := Nat.le_trans KP.1 (Nat.le_of_eq gg168.symm)
     have Z168 : n0 ≤ h168.size := Nat.le_trans Z167 E168.1
     replace KP := KP.ext E168
     have E_b168 := A168
     have F_b168_text : Fld Z h168 b168 "com/example/sayso/sayso/TextCursor" "text" "Ljava/lang/String;" .null := D168 (Or.inr (wm43 hw)) (ty := (.object "java/lang/String")) (by decide)
     have F_b168_position : Fld Z h168 b168 "com/example/sayso/sayso/TextCursor" "position" "I" (.int 0) := D168 (Or.inl (wm45 hw)) (ty := .int) (by decide)
     refine Run.st st168 ?_
     show Run p e below s _ _ _ (T168.setTop (mkF m 112 #[.val (.int p1), .val (.int p2), .val (.int p3), .val (.int p4), .val (.int p5), .val (.int p6), .val (.int k0), .val (.int k1), .val (.int k2), .val (.ref b1), .val (.int 3), .val (.int 3), z12, .val (.int wd), .val (.ref sb167), .unset, .unset, .unset] [(.ref b168)]))
     refine Run.x_dup (q := 113) X168 hx (hb hby at_112) rfl rfl ?_
     refine Run.x_aload (q := 115) X168 hx (hb hby at_113) rfl rfl rfl ?_
     refine Run.callC X168 hx hZ e168 (y := (⟨"com/example/sayso/sayso/TextCursor", "<init>", "(Ljava/lang/String;)V"⟩ : MethodName)) hown rfl (wm38 hw) (wm39 hw) (wm37 hw) (wm40 hw) (by decide) (a := b168) (argsL := [(.ref sb167)]) (rest := [(.ref b168)]) (c_tci l Z a0 hw b168 sb167 h168 n0 Z168 E_b168 F_b168_text F_b168_position g_b168) pd_18 rfl (by rw [hml]; rfl) (W := 1) rfl (by decide) (by decide) (by decide) (by decide) (hb hby at_115) rfl ?_
     intro T169 v169 L169 X169 q169
     obtain ⟨rfl, M169, K169, E169, F169_0, F169_1⟩ := q169
     have N169 := Fr.app N167 M169
     show Run p e below s _ _ _ (T169.setTop (mkF m 118 #[.val (.int p1), .val (.int p2), .val (.int p3), .val (.int p4), .val (.int p5), .val (.int p6), .val (.int k0), .val (.int k1), .val (.int k2), .val (.ref b1), .val (.int 3), .val (.int 3), z12, .val (.int wd), .val (.ref sb167), .unset, .unset, .unset] [(.ref b168)]))
     replace S_COMPACT_STRINGS := S_COMPACT_STRINGS.ext E168
     replace S_COMPACT_STRINGS := Sta_keep S_COMPACT_STRINGS K169 (allS (Exa_ns E_b168) all0)
     replace S_SIOOBE_FORMATTER := S_SIOOBE_FORMATTER.ext E168
     replace S_SIOOBE_FORMATTER := Sta_keep S_SIOOBE_FORMATTER K169 (allS (Exa_ns E_b168) all0)
     replace S__assertionsDisabled := S__assertionsDisabled.ext E168
     replace S__assertionsDisabled := Sta_keep S__assertionsDisabled K169 (allS (Exa_ns E_b168) all0)
     replace S_HI_BYTE_SHIFT := S_HI_BYTE_SHIFT.ext E168
     replace S_HI_BYTE_SHIFT := Sta_keep S_HI_BYTE_SHIFT K169 (allS (Exa_ns E_b168) all0)
     replace S_LO_BYTE_SHIFT := S_LO_BYTE_SHIFT.ext E168
     replace S_LO_BYTE_SHIFT := Sta_keep S_LO_BYTE_SHIFT K169 (allS (Exa_ns E_b168) all0)
     have Z169 : n0 ≤ T169.heap.size := Nat.le_trans Z168 K169.1
     replace KP := KP.trans K169 (allS (Or.inr sz_b168) all0)
     refine Run.x_astore (q := 120) X169 hx #[.val (.int p1), .val (.int p2), .val (.int p3), .val (.int p4), .val (.int p5), .val (.int p6), .val (.int k0), .val (.int k1), .val (.int k2), .val (.ref b1), .val (.int 3), .val (.int 3), z12, .val (.int wd), .val (.ref sb167), .val (.ref b168), .unset, .unset] (hb hby at_118) rfl rfl rfl ?_
     refine Run.x_aload (q := 122) X169 hx (hb hby at_120) rfl rfl rfl ?_
     refine Run.x_iload (q := 124) X169 hx (hb hby at_122) rfl rfl ?_
     replace E_b168 := E_b168.keep K169
     obtain ⟨T170, h170, X170, e170, W170, st170⟩ := putF X169 hx hZ hown (host := "") (Or.inl (wm44 hw)) Via.refl rfl F169_1 E_b168 (Or.inl (wm45 hw)) (wm36 hw) (ty := .int) (by decide) rfl rfl (g := (mkF m 124 #[.val (.int p1), .val (.int p2), .val (.int p3), .val (.int p4), .val (.int p5), .val (.int p6), .val (.int k0), .val (.int k1), .val (.int k2), .val (.ref b1), .val (.int 3), .val (.int 3), z12, .val (.int wd), .val (.ref sb167), .val (.ref b168), .unset, .unset] [(.int 3), (.ref b168)])) rfl rfl (hb hby at_124)
     replace F169_1 := F169_1.same W170
     have Z170 : n0 ≤ h170.size := Nat.le_trans Z169 (Nat.le_of_eq W170.size.symm)
     replace KP := KP.wr W170 (Or.inr sz_b168)
     have N170 := Fr.snoc X170 N169 g_b168
     refine Run.st st170 ?_
     show Run p e below s _ _ _ (T170.setTop (mkF m 127 #[.val (.int p1), .val (.int p2), .val (.int p3), .val (.int p4), .val (.int p5), .val (.int p6), .val (.int k0), .val (.int k1), .val (.int k2), .val (.ref b1), .val (.int 3), .val (.int 3), z12, .val (.int wd), .val (.ref sb167), .val (.ref b168), .unset, .unset] []))
     refine Run.x_iload (q := 129) X170 hx (hb hby at_127) rfl rfl ?_
     refine Run.x_iload (q := 131) X170 hx (hb hby at_129) rfl rfl ?_
     refine Run.x_icmpYes (q := 154) X170 hx (hb hby at_131) (flt (by decide : ¬ ((3 : Int32) < (3 : Int32)))).2.1 (by decide) (by decide) ?_
     refine Run.x_iconst (q := 155) X170 hx (hb hby at_154) (z := (0 : Int32)) rfl rfl ?_
     refine Run.x_istore (q := 157) X170 hx #[.val (.int p1), .val (.int p2), .val (.int p3), .val (.int p4), .val (.int p5), .val (.int p6), .val (.int k0), .val (.int k1), .val (.int k2), .val (.ref b1), .val (.int 3), .val (.int 3), z12, .val (.int wd), .val (.ref sb167), .val (.ref b168), .val (.int 0), .unset] (hb hby at_155) rfl rfl ?_
     refine Run.x_aload (q := 159) X170 hx (hb hby at_157) rfl rfl rfl ?_
     refine Run.x_iload (q := 161) X170 hx (hb hby at_159) rfl rfl ?_
     replace E_b168 := E_b168.wr W170
     replace F169_0 := F169_0.other W170 (Or.inr (slot_ne (Or.inr (wm43 hw)) (Or.inl (wm45 hw)) (by decide) (t := (.object "java/lang/String")) (t' := .int) (by decide) (by decide)))
     replace Es167 := ((Es167.ext E168).keep K169).wr W170
     replace Fc167 := ((Fc167.ext E168).keep K169 (ninS ne_sb167_b168 nin0)).other W170 (Or.inl ne_sb167_b168)
     replace Fv167 := ((Fv167.ext E168).keep K169 (ninS ne_sb167_b168 nin0)).other W170 (Or.inl ne_sb167_b168)
     replace Ab167 := ((Ab167.ext E168).keep K169 (ninS ne_bts167_b168 nin0)).other W170 ne_bts167_b168
     replace S_COMPACT_STRINGS := S_COMPACT_STRINGS.wr W170
     refine Run.callVI (q := 164) X170 hx hZ e170 (y := (⟨"com/example/sayso/sayso/TextCursor", "at", "(C)Z"⟩ : MethodName)) (z := (⟨"com/example/sayso/sayso/TextCursor", "at", "(C)Z"⟩ : MethodName)) hown (wm46 hw) (wm47 hw) (notFace_of_selects (args := #[]) (mvT hZ (wm49 hw))) (wm49 hw) (wm48 hw) (wm37 hw) (wm50 hw) (by decide) (a := b168) E_b168 (argsL := [(.int wd)]) (rest := []) (c_atg0 l Z a0 hw b168 wd h170 n0 Z170 (3 : Int32) (3 : Int32) sb167 cp bts167 [(.int k0.toInt8.toInt32), (.int k1.toInt8.toInt32), (.int k2.toInt8.toInt32)] (3 : Int32) E_b168 F169_1 F169_0 Es167 Fc167 Fv167 Ab167 S_COMPACT_STRINGS hcp rfl (by decide) (by decide)) pd_19 rfl (by rw [hml]; rfl) (W := 0) rfl (by decide) (by decide) (by decide) (by decide) (hb hby at_161) rfl rfl fun T171 L171 X171 M171 e171 => ?_
     have N171 := Fr.app N170 M171
     refine Run.x_istore (q := 166) X171 hx #[.val (.int p1), .val (.int p2), .val (.int p3), .val (.int p4), .val (.int p5), .val (.int p6), .val (.int k0), .val (.int k1), .val (.int k2), .val (.ref b1), .val (.int 3), .val (.int 3), z12, .val (.int wd), .val (.ref sb167), .val (.ref b168), .val (.int 0), .val (.int 0)] (hb hby at_164) rfl rfl ?_
     refine Run.x_iload (q := 168) X171 hx (hb hby at_166) rfl rfl ?_
     refine Run.x_iload (q := 170) X171 hx (hb hby at_168) rfl rfl ?_
     refine Run.x_icmpNo (q := 173) X171 hx (hb hby at_170) (teq (by decide : (0 : Int32) = (0 : Int32))).2 rfl ?_
     refine Run.x_aload (q := 175) X171 hx (hb hby at_173) rfl rfl rfl ?_
     refine Run.z_getF (q := 178) X171 hx hZ e171 hown (wm44 hw) F169_1 (hb hby at_175) rfl fun T172 X172 e172 => ?_
     refine Run.x_iload (q := 180) X172 hx (hb hby at_178) rfl rfl ?_
     refine Run.x_icmpNo (q := 183) X172 hx (hb hby at_180) (teq (by decide : (3 : Int32) = (3 : Int32))).2 rfl ?_
     refine Run.x_aload (q := 185) X172 hx (hb hby at_183) rfl rfl rfl ?_
     refine Run.z_getF (q := 188) X172 hx hZ e172 hown (wm84 hw) F169_0 (hb hby at_185) rfl fun T173 X173 e173 => ?_
     refine Run.x_aload (q := 190) X173 hx (hb hby at_188) rfl rfl rfl ?_
     refine Run.st (B := T173.setTop (mkF m 193 #[.val (.int p1), .val (.int p2), .val (.int p3), .val (.int p4), .val (.int p5), .val (.int p6), .val (.int k0), .val (.int k1), .val (.int k2), .val (.ref b1), .val (.int 3), .val (.int 3), z12, .val (.int wd), .val (.ref sb167), .val (.ref b168), .val (.int 0), .val (.int 0)] [])) (fun t kt => Jvm.RoadKit.acmp (g := (mkF m 190 #[.val (.int p1), .val (.int p2), .val (.int p3), .val (.int p4), .val (.int p5), .val (.int p6), .val (.int k0), .val (.int k1), .val (.int k2), .val (.ref b1), .val (.int 3), .val (.int 3), z12, .val (.int wd), .val (.ref sb167), .val (.ref b168), .val (.int 0), .val (.int 0)] [(.ref sb167), (.ref sb167)])) X173 hx rfl rfl rfl (pc0 := 190) (pc' := 193) (same := true) rfl (hb hby at_190) rfl (decide_eq_true rfl) (by decide) (by decide) kt) ?_
     refine Run.x_iconst (q := 194) X173 hx (hb hby at_193) (z := (1 : Int32)) rfl rfl ?_
     refine Run.x_goto (q := 198) X173 hx (hb hby at_194) (by decide) (by decide) ?_
     refine Run.retN X173 hx hlk e173 (t := .boolean) hret (by simp) (z' := (1 : Int32)) (by decide) (hb hby at_198) (by decide) (by decide) ?_
     exact ⟨rfl, N171⟩
 refine Run.x_iload (q := 62) X4 hx (hb hby at_60) rfl rfl ?_
 refine Run.x_iconst (q := 63) X4 hx (hb hby at_62) (z := (1 : Int32)) rfl rfl ?_
 refine Run.x_iushr (q := 64) X4 hx (hb hby at_63) rfl rfl ?_
 refine Run.x_iconst (q := 65) X4 hx (hb hby at_64) (z := (3 : Int32)) rfl rfl ?_
 refine Run.x_iand (q := 66) X4 hx (hb hby at_65) rfl rfl ?_
 refine Run.x_istore (q := 68) X4 hx #[.val (.int p1), .val (.int p2), .val (.int p3), .val (.int p4), .val (.int p5), .val (.int p6), .val (.int k0), .val (.int k1), .val (.int k2), .val (.ref b1), .val (.int nn), .val (.int pp), .val (.int (((p5.toUInt32 >>> ((1 : Int32) &&& 31).toUInt32).toInt32) &&& (3 : Int32))), .unset, .unset, .unset, .unset, .unset] (hb hby at_66) rfl rfl ?_
 generalize hix : (((p5.toUInt32 >>> ((1 : Int32) &&& 31).toUInt32).toInt32) &&& (3 : Int32)) = ix
 rcases own_3 hix with rfl | rfl | rfl | rfl
 ·skip
  show Run p e below s _ _ _ (T4.setTop (mkF m 68 #[.val (.int p1), .val (.int p2), .val (.int p3), .val (.int p4), .val (.int p5), .val (.int p6), .val (.int k0), .val (.int k1), .val (.int k2), .val (.ref b1), .val (.int nn), .val (.int pp), .val (.int 0), .unset, .unset, .unset, .unset, .unset] []))
  refine Run.x_iload (q := 70) X4 hx (hb hby at_68) rfl rfl ?_
  refine Run.x_iconst (q := 71) X4 hx (hb hby at_70) (z := (1 : Int32)) rfl rfl ?_
  refine Run.x_iand (q := 72) X4 hx (hb hby at_71) rfl rfl ?_
  by_cases hc72 : (p5 &&& (1 : Int32)) = (0 : Int32)
  ·skip
   refine Run.x_ifYes (q := 91) X4 hx (hb hby at_72) ((if0 _ _).trans (teq hc72).1) (by decide) (by decide) ?_
   refine Run.x_iload (q := 93) X4 hx (hb hby at_91) rfl rfl ?_
   refine Run.x_i2c (q := 94) X4 hx (hb hby at_93) rfl rfl ?_
   refine Run.x_istore (q := 96) X4 hx #[.val (.int p1), .val (.int p2), .val (.int p3), .val (.int p4), .val (.int p5), .val (.int p6), .val (.int k0), .val (.int k1), .val (.int k2), .val (.ref b1), .val (.int nn), .val (.int pp), .val (.int 0), .val (.int p6.toUInt32.toUInt16.toUInt32.toInt32), .unset, .unset, .unset, .unset] (hb hby at_94) rfl rfl ?_
   exact J96 _ _
  ·skip
   refine Run.x_ifNo (q := 75) X4 hx (hb hby at_72) ((if0 _ _).trans (feq hc72).1) rfl ?_
   refine Run.x_iload (q := 77) X4 hx (hb hby at_75) rfl rfl ?_
   refine Run.x_iconst (q := 78) X4 hx (hb hby at_77) (z := (3 : Int32)) rfl rfl ?_
   refine Run.x_icmpNo (q := 81) X4 hx (hb hby at_78) (tlt (by decide : (0 : Int32) < (3 : Int32))).2.1 rfl ?_
   refine Run.x_aload (q := 83) X4 hx (hb hby at_81) rfl rfl rfl ?_
   refine Run.x_iload (q := 85) X4 hx (hb hby at_83) rfl rfl ?_
   refine Run.y_ldC (q := 86) X4 hx hZ e4 A_b1 (i := 0) (v := (.int k0)) (by decide) rfl (hb hby at_85) rfl ?_
   refine Run.x_istore (q := 88) X4 hx #[.val (.int p1), .val (.int p2), .val (.int p3), .val (.int p4), .val (.int p5), .val (.int p6), .val (.int k0), .val (.int k1), .val (.int k2), .val (.ref b1), .val (.int nn), .val (.int pp), .val (.int 0), .val (.int k0), .unset, .unset, .unset, .unset] (hb hby at_86) rfl rfl ?_
   refine Run.x_goto (q := 96) X4 hx (hb hby at_88) (by decide) (by decide) ?_
   exact J96 _ _
 ·skip
  show Run p e below s _ _ _ (T4.setTop (mkF m 68 #[.val (.int p1), .val (.int p2), .val (.int p3), .val (.int p4), .val (.int p5), .val (.int p6), .val (.int k0), .val (.int k1), .val (.int k2), .val (.ref b1), .val (.int nn), .val (.int pp), .val (.int 1), .unset, .unset, .unset, .unset, .unset] []))
  refine Run.x_iload (q := 70) X4 hx (hb hby at_68) rfl rfl ?_
  refine Run.x_iconst (q := 71) X4 hx (hb hby at_70) (z := (1 : Int32)) rfl rfl ?_
  refine Run.x_iand (q := 72) X4 hx (hb hby at_71) rfl rfl ?_
  by_cases hc72 : (p5 &&& (1 : Int32)) = (0 : Int32)
  ·skip
   refine Run.x_ifYes (q := 91) X4 hx (hb hby at_72) ((if0 _ _).trans (teq hc72).1) (by decide) (by decide) ?_
   refine Run.x_iload (q := 93) X4 hx (hb hby at_91) rfl rfl ?_
   refine Run.x_i2c (q := 94) X4 hx (hb hby at_93) rfl rfl ?_
   refine Run.x_istore (q := 96) X4 hx #[.val (.int p1), .val (.int p2), .val (.int p3), .val (.int p4), .val (.int p5), .val (.int p6), .val (.int k0), .val (.int k1), .val (.int k2), .val (.ref b1), .val (.int nn), .val (.int pp), .val (.int 1), .val (.int p6.toUInt32.toUInt16.toUInt32.toInt32), .unset, .unset, .unset, .unset] (hb hby at_94) rfl rfl ?_
   exact J96 _ _
  ·skip
   refine Run.x_ifNo (q := 75) X4 hx (hb hby at_72) ((if0 _ _).trans (feq hc72).1) rfl ?_
   refine Run.x_iload (q := 77) X4 hx (hb hby at_75) rfl rfl ?_
   refine Run.x_iconst (q := 78) X4 hx (hb hby at_77) (z := (3 : Int32)) rfl rfl ?_
   refine Run.x_icmpNo (q := 81) X4 hx (hb hby at_78) (tlt (by decide : (1 : Int32) < (3 : Int32))).2.1 rfl ?_
   refine Run.x_aload (q := 83) X4 hx (hb hby at_81) rfl rfl rfl ?_
   refine Run.x_iload (q := 85) X4 hx (hb hby at_83) rfl rfl ?_
   refine Run.y_ldC (q := 86) X4 hx hZ e4 A_b1 (i := 1) (v := (.int k1)) (by decide) rfl (hb hby at_85) rfl ?_
   refine Run.x_istore (q := 88) X4 hx #[.val (.int p1), .val (.int p2), .val (.int p3), .val (.int p4), .val (.int p5), .val (.int p6), .val (.int k0), .val (.int k1), .val (.int k2), .val (.ref b1), .val (.int nn), .val (.int pp), .val (.int 1), .val (.int k1), .unset, .unset, .unset, .unset] (hb hby at_86) rfl rfl ?_
   refine Run.x_goto (q := 96) X4 hx (hb hby at_88) (by decide) (by decide) ?_
   exact J96 _ _
 ·skip
  show Run p e below s _ _ _ (T4.setTop (mkF m 68 #[.val (.int p1), .val (.int p2), .val (.int p3), .val (.int p4), .val (.int p5), .val (.int p6), .val (.int k0), .val (.int k1), .val (.int k2), .val (.ref b1), .val (.int nn), .val (.int pp), .val (.int 2), .unset, .unset, .unset, .unset, .unset] []))
  refine Run.x_iload (q := 70) X4 hx (hb hby at_68) rfl rfl ?_
  refine Run.x_iconst (q := 71) X4 hx (hb hby at_70) (z := (1 : Int32)) rfl rfl ?_
  refine Run.x_iand (q := 72) X4 hx (hb hby at_71) rfl rfl ?_
  by_cases hc72 : (p5 &&& (1 : Int32)) = (0 : Int32)
  ·skip
   refine Run.x_ifYes (q := 91) X4 hx (hb hby at_72) ((if0 _ _).trans (teq hc72).1) (by decide) (by decide) ?_
   refine Run.x_iload (q := 93) X4 hx (hb hby at_91) rfl rfl ?_
   refine Run.x_i2c (q := 94) X4 hx (hb hby at_93) rfl rfl ?_
   refine Run.x_istore (q := 96) X4 hx #[.val (.int p1), .val (.int p2), .val (.int p3), .val (.int p4), .val (.int p5), .val (.int p6), .val (.int k0), .val (.int k1), .val (.int k2), .val (.ref b1), .val (.int nn), .val (.int pp), .val (.int 2), .val (.int p6.toUInt32.toUInt16.toUInt32.toInt32), .unset, .unset, .unset, .unset] (hb hby at_94) rfl rfl ?_
   exact J96 _ _
  ·skip
   refine Run.x_ifNo (q := 75) X4 hx (hb hby at_72) ((if0 _ _).trans (feq hc72).1) rfl ?_
   refine Run.x_iload (q := 77) X4 hx (hb hby at_75) rfl rfl ?_
   refine Run.x_iconst (q := 78) X4 hx (hb hby at_77) (z := (3 : Int32)) rfl rfl ?_
   refine Run.x_icmpNo (q := 81) X4 hx (hb hby at_78) (tlt (by decide : (2 : Int32) < (3 : Int32))).2.1 rfl ?_
   refine Run.x_aload (q := 83) X4 hx (hb hby at_81) rfl rfl rfl ?_
   refine Run.x_iload (q := 85) X4 hx (hb hby at_83) rfl rfl ?_
   refine Run.y_ldC (q := 86) X4 hx hZ e4 A_b1 (i := 2) (v := (.int k2)) (by decide) rfl (hb hby at_85) rfl ?_
   refine Run.x_istore (q := 88) X4 hx #[.val (.int p1), .val (.int p2), .val (.int p3), .val (.int p4), .val (.int p5), .val (.int p6), .val (.int k0), .val (.int k1), .val (.int k2), .val (.ref b1), .val (.int nn), .val (.int pp), .val (.int 2), .val (.int k2), .unset, .unset, .unset, .unset] (hb hby at_86) rfl rfl ?_
   refine Run.x_goto (q := 96) X4 hx (hb hby at_88) (by decide) (by decide) ?_
   exact J96 _ _
 ·skip
  show Run p e below s _ _ _ (T4.setTop (mkF m 68 #[.val (.int p1), .val (.int p2), .val (.int p3), .val (.int p4), .val (.int p5), .val (.int p6), .val (.int k0), .val (.int k1), .val (.int k2), .val (.ref b1), .val (.int nn), .val (.int pp), .val (.int 3), .unset, .unset, .unset, .unset, .unset] []))
  refine Run.x_iload (q := 70) X4 hx (hb hby at_68) rfl rfl ?_
  refine Run.x_iconst (q := 71) X4 hx (hb hby at_70) (z := (1 : Int32)) rfl rfl ?_
  refine Run.x_iand (q := 72) X4 hx (hb hby at_71) rfl rfl ?_
  by_cases hc72 : (p5 &&& (1 : Int32)) = (0 : Int32)
  ·skip
   refine Run.x_ifYes (q := 91) X4 hx (hb hby at_72) ((if0 _ _).trans (teq hc72).1) (by decide) (by decide) ?_
   refine Run.x_iload (q := 93) X4 hx (hb hby at_91) rfl rfl ?_
   refine Run.x_i2c (q := 94) X4 hx (hb hby at_93) rfl rfl ?_
   refine Run.x_istore (q := 96) X4 hx #[.val (.int p1), .val (.int p2), .val (.int p3), .val (.int p4), .val (.int p5), .val (.int p6), .val (.int k0), .val (.int k1), .val (.int k2), .val (.ref b1), .val (.int nn), .val (.int pp), .val (.int 3), .val (.int p6.toUInt32.toUInt16.toUInt32.toInt32), .unset, .unset, .unset, .unset] (hb hby at_94) rfl rfl ?_
   exact J96 _ _
  ·skip
   refine Run.x_ifNo (q := 75) X4 hx (hb hby at_72) ((if0 _ _).trans (feq hc72).1) rfl ?_
   refine Run.x_iload (q := 77) X4 hx (hb hby at_75) rfl rfl ?_
   refine Run.x_iconst (q := 78) X4 hx (hb hby at_77) (z := (3 : Int32)) rfl rfl ?_
   refine Run.x_icmpYes (q := 91) X4 hx (hb hby at_78) (flt (by decide : ¬ ((3 : Int32) < (3 : Int32)))).2.1 (by decide) (by decide) ?_
   refine Run.x_iload (q := 93) X4 hx (hb hby at_91) rfl rfl ?_
   refine Run.x_i2c (q := 94) X4 hx (hb hby at_93) rfl rfl ?_
   refine Run.x_istore (q := 96) X4 hx #[.val (.int p1), .val (.int p2), .val (.int p3), .val (.int p4), .val (.int p5), .val (.int p6), .val (.int k0), .val (.int k1), .val (.int k2), .val (.ref b1), .val (.int nn), .val (.int pp), .val (.int 3), .val (.int p6.toUInt32.toUInt16.toUInt32.toInt32), .unset, .unset, .unset, .unset] (hb hby at_94) rfl rfl ?_
   exact J96 _ _
theorem own_eqi {args : Array Value} {first s : State} {o : Option Outcome} {idx : List Nat} {t : Term} {z : Int32} (h : (Cond.eq t (Term.int z)).value args first o s idx = some true) : t.eval args first o idx s = some (.int z) := by
 simp only [Cond.value, Term.int_eval] at h
 cases ht : t.eval args first o idx s with
 | none => simp [ht] at h
 | some x => cases x <;> simp [ht] at h ⊢; exact h
theorem own_nei {args : Array Value} {first s : State} {o : Option Outcome} {idx : List Nat} {t : Term} {x : Int32} (h : (Cond.not (Cond.eq t (Term.int 0))).value args first o s idx = some true) (e : t.eval args first o idx s = some (.int x)) : ¬ x = (0 : Int32) := by
 have q := not_v h
 simp only [Cond.value, Term.int_eval, e] at q
 simpa using q
set_option maxRecDepth 65536 in
set_option maxHeartbeats 40000000 in
theorem comes_1 {Post : Tables → Env → Array Value → State → Outcome → State → Prop} (hpost : ∀ tb e args s v u, (limb_1_1.after args s (.returned v) u = true ∧ limb_1_2.after args s (.returned v) u = true ∧ True) → Jvm.D.FramedW s (.returned v) u (Jvm.fieldLocs frame_1_writes args s ++ Jvm.arrayLocs frame_1_arrays args s ++ Jvm.staticLocs frame_1_statics s) 24 1152 → Post tb e args s (.returned v) u) :
    ArmFor flags0 classFile x code maxLocals ret World_1 tables_1 room_1 Calls_1 rest_1 Pre_1 Post := by
  intro l hfl _ _ p e ha hc hk s m args below hf hA hF happ hP
  obtain ⟨hcalls, hrest, hpre⟩ := hP
  obtain ⟨-, -, -, hnamed, -, -, -, hat⟩ := (Spec.applies_iff hf).mp happ
  obtain ⟨hg, hn⟩ := and_e (Cond.before_iff.mp (show (Jvm.Cond.and given_1 narrow_1).before args s = true from hpre))
  obtain ⟨g1, g2⟩ := and_e hg
  obtain ⟨g3, g4⟩ := and_e g2
  obtain ⟨g5, g6⟩ := and_e g4
  obtain ⟨g7, g8⟩ := and_e g6
  obtain ⟨g9, g10⟩ := and_e g8
  obtain ⟨g11, g12⟩ := and_e g10
  obtain ⟨w0, w1, w2, w3, w4, w5, rfl⟩ : ∃ w0 w1 w2 w3 w4 w5 : Value, args = #[w0, w1, w2, w3, w4, w5] := by
    have hs : args.size = 6 := by simpa [Cond.value, given_1] using g1
    obtain ⟨L⟩ := args
    match L, hs with
    | [w0, w1, w2, w3, w4, w5], _ => exact ⟨w0, w1, w2, w3, w4, w5, rfl⟩
  have hw := fun d (hd : d ∈ tables_1) => atoms_spec (ws := Jvm.Cond.code x code maxLocals ret :: tables_1) hat d (List.mem_cons_of_mem _ hd)
  have hfit : Fit s := fun {y c} hc i hi => by
    obtain ⟨ha, rfl⟩ := Array.getElem?_eq_some_iff.mp hc
    have q := List.all_eq_true.mp ((Array.all_eq_true_iff_forall_mem.mp hF) _ (Array.getElem_mem ha)) i (List.mem_range.mpr hi)
    simpa [Array.getElem?_eq_getElem hi] using q
  obtain ⟨hsets, hown0⟩ := atoms_of _ (rest_1_c_eq ▸ (show rest_1_c.before _ s = true from hrest))
  have hr0 := Cond.before_iff.mp hown0
  obtain ⟨i0, ei0⟩ := is_v g3
  obtain rfl : w0 = (.int i0) := Option.some.inj ei0
  obtain ⟨i1, ei1⟩ := is_v g5
  obtain rfl : w1 = (.int i1) := Option.some.inj ei1
  obtain ⟨i2, ei2⟩ := is_v g7
  obtain rfl : w2 = (.int i2) := Option.some.inj ei2
  obtain ⟨i3, ei3⟩ := is_v g9
  obtain rfl : w3 = (.int i3) := Option.some.inj ei3
  obtain ⟨i4, ei4⟩ := is_v g11
  obtain rfl : w4 = (.int i4) := Option.some.inj ei4
  obtain ⟨i5, ei5⟩ := is_v g12
  obtain rfl : w5 = (.int i5) := Option.some.inj ei5
  obtain ⟨cp, ecp⟩ := is_v (Cond.before_iff.mp (hsets _ (List.mem_of_getElem? (i := 1) rfl)))
  have hcp := own_nei (Cond.before_iff.mp (hsets _ (List.mem_of_getElem? (i := 2) rfl))) ecp
  have Scp := Sta.start ecp (Or.inl (hsets _ (List.mem_of_getElem? (i := 0) rfl)))
  obtain ⟨sf, esf, hsf⟩ := isR_v (Cond.before_iff.mp (hsets _ (List.mem_of_getElem? (i := 8) rfl)))
  have Ssf := Sta.start esf (Or.inl (hsets _ (List.mem_of_getElem? (i := 7) rfl)))
  have Sad := Sta.start (own_eqi (Cond.before_iff.mp (hsets _ (List.mem_of_getElem? (i := 12) rfl)))) (Or.inl (hsets _ (List.mem_of_getElem? (i := 11) rfl)))
  have Shi := Sta.start (own_eqi (Cond.before_iff.mp (hsets _ (List.mem_of_getElem? (i := 15) rfl)))) (Or.inl (hsets _ (List.mem_of_getElem? (i := 14) rfl)))
  have Slo := Sta.start (own_eqi (Cond.before_iff.mp (hsets _ (List.mem_of_getElem? (i := 18) rfl)))) (Or.inl (hsets _ (List.mem_of_getElem? (i := 17) rfl)))
  obtain ⟨n, o, h1, h2, h3, _, L, rfl, ⟨rfl, N⟩, hq⟩ := c_law l s _ hw i0 i1 i2 i3 i4 i5 s.heap s.heap.size (Nat.le_refl _) cp sf Scp Ssf Sad Shi Slo hcp hsf (fun _ _ q => q) (hcalls.1 ("java/lang/String", 7) (by simp [consts_1])) (hsets _ (List.mem_of_getElem? (i := 2) rfl)) tables_1 p e ha hc hk s m _ below hf ((Spec.applies_iff_loose hf).mp happ).1 ⟨rfl, ⟨State.Warmed39.refl s, IB.start⟩, rfl⟩ trivial
  refine ⟨n, _, h1, h2, h3, hpost _ _ _ _ _ _ ⟨Cond.after_iff.mpr rfl, Cond.after_iff.mpr (eq_i res_at (Term.int_eval (1)) rfl), trivial⟩ ⟨hq.1, hq.2.1, hq.2.2.1, (hq.2.2.2.sift fun y hy => Or.inr (N y hy)).mono (by decide) (by decide)⟩⟩
theorem main_1_1 : Claimed_1_1 := comes_1 fun _ _ _ _ _ _ h hF => ⟨h.1, hF⟩
theorem main_1_2 : Claimed_1_2 := comes_1 fun _ _ _ _ _ _ h hF => ⟨h.2.1, hF⟩
end Jvm.Pilot.@@N@@
namespace Jvm.Pilot.@@N@@
open Jvm Jvm.ClassFile Sem Op Lib Jvm.Free Jvm.Stand Jvm.Pilot.@@N@@.Jvm.D
/-! MADE BY PROGRAM (witnessworld.py) out of the Statement's table words and the real class files: 20 classes; the members and pool entries that the words name. The judged class is class 1, her method 2. -/
namespace start1
open Jvm.ClassFile
def u (s : String) : CpInfo := .utf8 (stringToUtf16 s)
/-- a pool by its gaps: so many unusable entries, then the entry; so many at the end -/
def gap : Nat → List CpInfo → List CpInfo
  | 0, r => r
  | n + 1, r => .unusable :: gap n r
def poolList (es : List (Nat × CpInfo)) (last : Nat) : List CpInfo := es.foldr (fun e r => gap e.1 (e.2 :: r)) (gap last [])
def pool (es : List (Nat × CpInfo)) (last : Nat) : Array CpInfo := ⟨poolList es last⟩
def fileOf (pool : Array CpInfo) (this : Nat) (attrs : Array Attribute := #[]) (ms : Array MethodInfo := #[]) (fl : Nat := 33) (sup : Nat := 0) (ifs : Array Nat := #[]) (fds : Array FieldInfo := #[]) : ClassFile where
  minorVersion := 0
  majorVersion := 65
  constantPool := pool
  accessFlags := fl
  thisClass := this
  superClass := sup
  interfaces := ifs
  fields := fds
  methods := ms
  attributes := attrs
def plain (name : String) (sup : Option ClassId) : Class where
  name := name
  kind := .ordinary
  loader := none
  accessFlags := 33
  super := sup
  interfaces := #[]
  cf := none
  fields := #[]
  methods := #[]
  instanceTypes := #[]
  staticTypes := #[]
  resolved := #[]
  callSites := []
  init := .initialized
  statics := none
  mirror := none

def pool0 : Array CpInfo := pool [(5, u "<init>"), (0, u "()V"), (1, .class_ 10), (1, u "java/lang/Object")] 113

def k0c0 : Code := { maxStack := 0, maxLocals := 1, code := object_method_1_code, exceptionTable := #[], attributes := #[] }
def k0m0 : Method := { name := "<init>", desc := "()V", sig := { parameters := [], returnType := none }, accessFlags := 1, code := some k0c0 }
/-- java/lang/Object -/
def k0 : Class := { plain "java/lang/Object" none with
  accessFlags := 33
  interfaces := #[]
  cf := some (fileOf pool0 8 #[] #[{ accessFlags := 1, nameIndex := 5, descriptorIndex := 6, attributes := #[] }] 33 0 #[] #[])
  fields := #[]
  methods := #[k0m0]
  instanceTypes := #[]
  staticTypes := #[]
  resolved := Array.replicate 124 none
  statics := none }

def pool1 : Array CpInfo := pool [(2, .class_ 4), (1, u "java/lang/Object"), (0, u "<init>"), (0, u "()V"), (0, .class_ 8), (0, u "java/lang/String"), (0, .methodref 7 10), (0, .nameAndType 5 11), (0, u "([C)V"), (0, .integer 2147483647), (0, .methodref 14 15), (0, .class_ 16), (0, .nameAndType 17 18), (0, u "com/example/sayso/sayso/TextCursorAtPinLaw"), (0, u "make"), (0, u "(ICCC)Ljava/lang/String;"), (0, .class_ 20), (0, u "com/example/sayso/sayso/TextCursor"), (0, .methodref 19 22), (0, .nameAndType 5 23), (0, u "(Ljava/lang/String;)V"), (0, .fieldref 19 25), (0, .nameAndType 26 27), (0, u "position"), (0, u "I"), (0, .methodref 19 29), (0, .nameAndType 30 31), (0, u "at"), (0, u "(C)Z"), (0, .fieldref 19 33), (0, .nameAndType 34 35), (0, u "text"), (0, u "Ljava/lang/String;"), (3, u "law"), (0, u "(IIIIII)Z")] 4

def k1m0 : Method := { name := "<init>", desc := "()V", sig := { parameters := [], returnType := none }, accessFlags := 1, code := none }
def k1c1 : Code := { maxStack := 6, maxLocals := 4, code := method_2_code, exceptionTable := #[], attributes := #[] }
def k1m1 : Method := { name := "make", desc := "(ICCC)Ljava/lang/String;", sig := { parameters := [.int, .char, .char, .char], returnType := some (.object "java/lang/String") }, accessFlags := 10, code := some k1c1 }
def k1c2 : Code := { maxStack := 4, maxLocals := 18, code := code, exceptionTable := #[], attributes := #[] }
def k1m2 : Method := { name := "law", desc := "(IIIIII)Z", sig := { parameters := [.int, .int, .int, .int, .int, .int], returnType := some .boolean }, accessFlags := 9, code := some k1c2 }
/-- com/example/sayso/sayso/TextCursorAtPinLaw -/
def k1 : Class := { plain "com/example/sayso/sayso/TextCursorAtPinLaw" (some 0) with
  accessFlags := 49
  interfaces := #[]
  cf := some (fileOf pool1 14 #[] #[{ accessFlags := 1, nameIndex := 5, descriptorIndex := 6, attributes := #[] }, { accessFlags := 10, nameIndex := 17, descriptorIndex := 18, attributes := #[] }, { accessFlags := 9, nameIndex := 39, descriptorIndex := 40, attributes := #[] }] 49 2 #[] #[])
  fields := #[]
  methods := #[k1m0, k1m1, k1m2]
  instanceTypes := #[]
  staticTypes := #[]
  resolved := Array.replicate 45 none
  statics := none }

def pool2 : Array CpInfo := pool [(1, .class_ 2), (0, u "java/io/Serializable"), (0, .class_ 4), (0, u "java/lang/Object")] 2

/-- java/io/Serializable -/
def k2 : Class := { plain "java/io/Serializable" (some 0) with
  accessFlags := 1537
  interfaces := #[]
  cf := some (fileOf pool2 1 #[] #[] 1537 3 #[] #[])
  fields := #[]
  methods := #[]
  instanceTypes := #[]
  staticTypes := #[]
  resolved := Array.replicate 7 none
  statics := none }

def pool3 : Array CpInfo := pool [(1, .class_ 2), (0, u "java/lang/Comparable"), (0, .class_ 4), (0, u "java/lang/Object")] 7

/-- java/lang/Comparable -/
def k3 : Class := { plain "java/lang/Comparable" (some 0) with
  accessFlags := 1537
  interfaces := #[]
  cf := some (fileOf pool3 1 #[] #[] 1537 3 #[] #[])
  fields := #[]
  methods := #[]
  instanceTypes := #[]
  staticTypes := #[]
  resolved := Array.replicate 12 none
  statics := none }

def pool4 : Array CpInfo := pool [(2, .class_ 4), (1, u "java/lang/CharSequence"), (42, .class_ 48), (0, u "java/lang/CharSequence$1CodePointIterator"), (10, .class_ 60), (0, u "java/lang/CharSequence$1CharIterator"), (5, .class_ 67), (0, u "java/lang/Object")] 63

/-- java/lang/CharSequence -/
def k4 : Class := { plain "java/lang/CharSequence" (some 0) with
  accessFlags := 1537
  interfaces := #[]
  cf := some (fileOf pool4 2 #[.nestMembers #[47, 59]] #[] 1537 66 #[] #[])
  fields := #[]
  methods := #[]
  instanceTypes := #[]
  staticTypes := #[]
  resolved := Array.replicate 131 none
  statics := none }

def pool5 : Array CpInfo := pool [(1, .class_ 2), (0, u "java/lang/constant/Constable"), (0, .class_ 4), (0, u "java/lang/Object")] 6

/-- java/lang/constant/Constable -/
def k5 : Class := { plain "java/lang/constant/Constable" (some 0) with
  accessFlags := 1537
  interfaces := #[]
  cf := some (fileOf pool5 1 #[] #[] 1537 3 #[] #[])
  fields := #[]
  methods := #[]
  instanceTypes := #[]
  staticTypes := #[]
  resolved := Array.replicate 11 none
  statics := none }

def pool6 : Array CpInfo := pool [(1, .class_ 2), (0, u "java/lang/constant/ConstantDesc"), (0, .class_ 4), (0, u "java/lang/Object")] 32

/-- java/lang/constant/ConstantDesc -/
def k6 : Class := { plain "java/lang/constant/ConstantDesc" (some 0) with
  accessFlags := 1537
  interfaces := #[]
  cf := some (fileOf pool6 1 #[] #[] 1537 3 #[] #[])
  fields := #[]
  methods := #[]
  instanceTypes := #[]
  staticTypes := #[]
  resolved := Array.replicate 37 none
  statics := none }

def pool7 : Array CpInfo := pool [(1, .methodref 2 3), (0, .class_ 4), (0, .nameAndType 5 6), (0, u "java/lang/Object"), (0, u "<init>"), (0, u "()V"), (0, .string 8), (0, u ""), (0, .fieldref 10 11), (0, .class_ 12), (0, .nameAndType 13 14), (0, u "java/lang/String"), (0, u "value"), (0, u "[B"), (0, .fieldref 10 16), (0, .nameAndType 17 18), (0, u "coder"), (0, u "B"), (2, u "hash"), (0, u "I"), (2, u "hashIsZero"), (0, u "Z"), (0, .methodref 10 28), (0, .nameAndType 5 29), (0, u "([CIILjava/lang/Void;)V"), (8, .fieldref 10 39), (0, .nameAndType 40 26), (0, u "COMPACT_STRINGS"), (1, .class_ 44), (1, u "java/lang/StringUTF16"), (0, u "compress"), (1, .methodref 42 48), (0, .nameAndType 49 50), (0, u "coderFromArrayLen"), (0, u "([BI)B"), (56, .class_ 109), (1, u "java/lang/StringLatin1"), (32, u "()Z"), (34, .methodref 42 178), (0, .nameAndType 45 179), (0, u "([CII)[B"), (154, u "()I"), (0, .methodref 10 336), (0, .nameAndType 17 337), (0, u "()B"), (25, u "([BI)C"), (27, u "(II)V"), (35, u "(I)C"), (64, .methodref 10 493), (0, .nameAndType 494 142), (0, u "isLatin1"), (0, .methodref 107 496), (0, .nameAndType 497 363), (0, u "charAt"), (0, .methodref 42 496), (2, u "checkIndex"), (5, u "length"), (67, .class_ 576), (0, u "java/lang/CharSequence"), (22, u "CASE_INSENSITIVE_ORDER"), (0, u "Ljava/util/Comparator;"), (409, u "([C)V"), (42, .fieldref 1054 1055), (0, .class_ 1056), (0, .nameAndType 1057 1058), (0, u "jdk/internal/util/Preconditions"), (0, u "SIOOBE_FORMATTER"), (0, u "Ljava/util/function/BiFunction;"), (0, .methodref 1054 1060), (0, .nameAndType 501 1061), (0, u "(IILjava/util/function/BiFunction;)I"), (39, u "serialPersistentFields"), (0, u "[Ljava/io/ObjectStreamField;"), (0, .class_ 1104), (0, u "java/lang/String$CaseInsensitiveComparator"), (1, .class_ 1107), (0, u "java/io/Serializable"), (0, .class_ 1109), (0, u "java/lang/Comparable"), (0, .class_ 1111), (0, u "java/lang/constant/Constable"), (0, .class_ 1113), (0, u "java/lang/constant/ConstantDesc"), (2, u "serialVersionUID"), (0, u "J"), (3, u "REPL"), (0, u "C"), (2, u "LATIN1"), (1, u "UTF16")] 323

def k7m0 : Method := { name := "<init>", desc := "()V", sig := { parameters := [], returnType := none }, accessFlags := 1, code := none }
def k7c1 : Code := { maxStack := 5, maxLocals := 2, code := jdk_42_method_3_code, exceptionTable := #[], attributes := #[] }
def k7m1 : Method := { name := "<init>", desc := "([C)V", sig := { parameters := [(.array .char)], returnType := none }, accessFlags := 1, code := some k7c1 }
def k7c2 : Code := { maxStack := 2, maxLocals := 1, code := jdk_42_method_54_code, exceptionTable := #[], attributes := #[] }
def k7m2 : Method := { name := "length", desc := "()I", sig := { parameters := [], returnType := some .int }, accessFlags := 1, code := some k7c2 }
def k7c3 : Code := { maxStack := 2, maxLocals := 2, code := jdk_42_method_56_code, exceptionTable := #[], attributes := #[] }
def k7m3 : Method := { name := "charAt", desc := "(I)C", sig := { parameters := [.int], returnType := some .char }, accessFlags := 1, code := some k7c3 }
def k7c4 : Code := { maxStack := 4, maxLocals := 6, code := jdk_42_method_149_code, exceptionTable := #[], attributes := #[] }
def k7m4 : Method := { name := "<init>", desc := "([CIILjava/lang/Void;)V", sig := { parameters := [(.array .char), .int, .int, (.object "java/lang/Void")], returnType := none }, accessFlags := 2, code := some k7c4 }
def k7c5 : Code := { maxStack := 1, maxLocals := 1, code := jdk_42_method_152_code, exceptionTable := #[], attributes := #[] }
def k7m5 : Method := { name := "coder", desc := "()B", sig := { parameters := [], returnType := some .byte }, accessFlags := 0, code := some k7c5 }
def k7c6 : Code := { maxStack := 1, maxLocals := 1, code := jdk_42_method_154_code, exceptionTable := #[], attributes := #[] }
def k7m6 : Method := { name := "isLatin1", desc := "()Z", sig := { parameters := [], returnType := some .boolean }, accessFlags := 0, code := some k7c6 }
def k7c7 : Code := { maxStack := 3, maxLocals := 2, code := jdk_42_method_155_code, exceptionTable := #[], attributes := #[] }
def k7m7 : Method := { name := "checkIndex", desc := "(II)V", sig := { parameters := [.int, .int], returnType := none }, accessFlags := 8, code := some k7c7 }
/-- java/lang/String -/
def k7 : Class := { plain "java/lang/String" (some 0) with
  accessFlags := 49
  interfaces := #[2, 3, 4, 5, 6]
  cf := some (fileOf pool7 10 #[.nestMembers #[1103]] #[{ accessFlags := 1, nameIndex := 5, descriptorIndex := 6, attributes := #[] }, { accessFlags := 1, nameIndex := 5, descriptorIndex := 1010, attributes := #[] }, { accessFlags := 1, nameIndex := 507, descriptorIndex := 334, attributes := #[] }, { accessFlags := 1, nameIndex := 497, descriptorIndex := 427, attributes := #[] }, { accessFlags := 2, nameIndex := 5, descriptorIndex := 29, attributes := #[] }, { accessFlags := 0, nameIndex := 17, descriptorIndex := 337, attributes := #[] }, { accessFlags := 0, nameIndex := 494, descriptorIndex := 142, attributes := #[] }, { accessFlags := 8, nameIndex := 501, descriptorIndex := 391, attributes := #[] }] 49 2 #[1106, 1108, 575, 1110, 1112] #[{ accessFlags := 18, nameIndex := 13, descriptorIndex := 14, attributes := #[] }, { accessFlags := 18, nameIndex := 17, descriptorIndex := 18, attributes := #[] }, { accessFlags := 2, nameIndex := 21, descriptorIndex := 22, attributes := #[] }, { accessFlags := 2, nameIndex := 25, descriptorIndex := 26, attributes := #[] }, { accessFlags := 26, nameIndex := 1116, descriptorIndex := 1117, attributes := #[] }, { accessFlags := 24, nameIndex := 40, descriptorIndex := 26, attributes := #[] }, { accessFlags := 26, nameIndex := 1101, descriptorIndex := 1102, attributes := #[] }, { accessFlags := 26, nameIndex := 1121, descriptorIndex := 1122, attributes := #[] }, { accessFlags := 25, nameIndex := 599, descriptorIndex := 600, attributes := #[] }, { accessFlags := 24, nameIndex := 1125, descriptorIndex := 18, attributes := #[] }, { accessFlags := 24, nameIndex := 1127, descriptorIndex := 18, attributes := #[] }])
  fields := #[{ name := "value", type := (.array .byte), accessFlags := 18, slot := 0, constantValue := 0 }, { name := "coder", type := .byte, accessFlags := 18, slot := 1, constantValue := 0 }, { name := "hash", type := .int, accessFlags := 2, slot := 2, constantValue := 0 }, { name := "hashIsZero", type := .boolean, accessFlags := 2, slot := 3, constantValue := 0 }, { name := "serialVersionUID", type := .long, accessFlags := 26, slot := 0, constantValue := 0 }, { name := "COMPACT_STRINGS", type := .boolean, accessFlags := 24, slot := 1, constantValue := 0 }, { name := "serialPersistentFields", type := (.array (.object "java/io/ObjectStreamField")), accessFlags := 26, slot := 2, constantValue := 0 }, { name := "REPL", type := .char, accessFlags := 26, slot := 3, constantValue := 0 }, { name := "CASE_INSENSITIVE_ORDER", type := (.object "java/util/Comparator"), accessFlags := 25, slot := 4, constantValue := 0 }, { name := "LATIN1", type := .byte, accessFlags := 24, slot := 5, constantValue := 0 }, { name := "UTF16", type := .byte, accessFlags := 24, slot := 6, constantValue := 0 }]
  methods := #[k7m0, k7m1, k7m2, k7m3, k7m4, k7m5, k7m6, k7m7]
  instanceTypes := #[(.array .byte), .byte, .int, .boolean]
  staticTypes := #[.long, .boolean, (.array (.object "java/io/ObjectStreamField")), .char, (.object "java/util/Comparator"), .byte, .byte]
  resolved := Array.replicate 1451 none
  statics := some 0 }

def pool8 : Array CpInfo := pool [(3, .class_ 4), (0, u "java/lang/String"), (1, .class_ 8), (1, u "java/lang/Object"), (0, u "<init>"), (0, u "()V"), (0, .methodref 12 13), (0, .class_ 14), (0, .nameAndType 15 16), (0, u "java/lang/StringUTF16"), (0, u "newBytesLength"), (0, u "(I)I"), (3, .integer 1073741823), (23, .fieldref 12 45), (0, .nameAndType 46 47), (0, u "$assertionsDisabled"), (0, u "Z"), (0, .methodref 12 49), (0, .nameAndType 50 51), (0, u "length"), (0, u "([B)I"), (7, .fieldref 12 60), (0, .nameAndType 61 62), (0, u "HI_BYTE_SHIFT"), (0, u "I"), (0, .fieldref 12 64), (0, .nameAndType 65 62), (0, u "LO_BYTE_SHIFT"), (1, .methodref 12 68), (0, .nameAndType 69 70), (0, u "checkIndex"), (0, u "(I[B)V"), (0, .methodref 12 72), (0, .nameAndType 73 74), (0, u "getChar"), (0, u "([BI)C"), (32, .methodref 12 108), (0, .nameAndType 109 110), (0, u "newBytesFor"), (0, u "(I)[B"), (0, .methodref 12 112), (0, .nameAndType 113 114), (0, u "putChar"), (0, u "([BII)V"), (0, .methodref 12 116), (0, .nameAndType 117 118), (0, u "compress"), (0, u "([CI[BII)I"), (0, .methodref 12 120), (0, .nameAndType 121 122), (0, u "toBytes"), (0, u "([CII)[B"), (138, u "coderFromArrayLen"), (0, u "([BI)B"), (106, .class_ 371), (1, u "java/lang/StringUTF16$LinesSpliterator"), (20, u "charAt"), (21, .methodref 3 415), (0, .nameAndType 69 416), (0, u "(II)V"), (13, u "MAX_LENGTH"), (196, .class_ 628), (0, u "java/lang/StringUTF16$CodePointsSpliterator"), (0, .class_ 630), (0, u "java/lang/StringUTF16$CharsSpliterator")] 4

def k8m0 : Method := { name := "<init>", desc := "()V", sig := { parameters := [], returnType := none }, accessFlags := 0, code := none }
def k8c1 : Code := { maxStack := 1, maxLocals := 1, code := jdk_52_method_2_code, exceptionTable := #[], attributes := #[] }
def k8m1 : Method := { name := "newBytesFor", desc := "(I)[B", sig := { parameters := [.int], returnType := some (.array .byte) }, accessFlags := 9, code := some k8c1 }
def k8c2 : Code := { maxStack := 4, maxLocals := 1, code := jdk_52_method_3_code, exceptionTable := #[], attributes := #[] }
def k8m2 : Method := { name := "newBytesLength", desc := "(I)I", sig := { parameters := [.int], returnType := some .int }, accessFlags := 9, code := some k8c2 }
def k8c3 : Code := { maxStack := 4, maxLocals := 3, code := jdk_52_method_4_code, exceptionTable := #[], attributes := #[] }
def k8m3 : Method := { name := "putChar", desc := "([BII)V", sig := { parameters := [(.array .byte), .int, .int], returnType := none }, accessFlags := 8, code := some k8c3 }
def k8c4 : Code := { maxStack := 3, maxLocals := 2, code := jdk_52_method_5_code, exceptionTable := #[], attributes := #[] }
def k8m4 : Method := { name := "getChar", desc := "([BI)C", sig := { parameters := [(.array .byte), .int], returnType := some .char }, accessFlags := 8, code := some k8c4 }
def k8c5 : Code := { maxStack := 2, maxLocals := 1, code := jdk_52_method_6_code, exceptionTable := #[], attributes := #[] }
def k8m5 : Method := { name := "length", desc := "([B)I", sig := { parameters := [(.array .byte)], returnType := some .int }, accessFlags := 9, code := some k8c5 }
def k8c6 : Code := { maxStack := 4, maxLocals := 5, code := jdk_52_method_14_code, exceptionTable := #[], attributes := #[] }
def k8m6 : Method := { name := "toBytes", desc := "([CII)[B", sig := { parameters := [(.array .char), .int, .int], returnType := some (.array .byte) }, accessFlags := 9, code := some k8c6 }
def k8c7 : Code := { maxStack := 2, maxLocals := 2, code := jdk_52_method_15_code, exceptionTable := #[], attributes := #[] }
def k8m7 : Method := { name := "coderFromArrayLen", desc := "([BI)B", sig := { parameters := [(.array .byte), .int], returnType := some .byte }, accessFlags := 8, code := some k8c7 }
def k8c8 : Code := { maxStack := 5, maxLocals := 6, code := jdk_52_method_16_code, exceptionTable := #[], attributes := #[] }
def k8m8 : Method := { name := "compress", desc := "([CII)[B", sig := { parameters := [(.array .char), .int, .int], returnType := some (.array .byte) }, accessFlags := 9, code := some k8c8 }
def k8c9 : Code := { maxStack := 3, maxLocals := 7, code := jdk_52_method_21_code, exceptionTable := #[], attributes := #[] }
def k8m9 : Method := { name := "compress", desc := "([CI[BII)I", sig := { parameters := [(.array .char), .int, (.array .byte), .int, .int], returnType := some .int }, accessFlags := 9, code := some k8c9 }
def k8c10 : Code := { maxStack := 2, maxLocals := 2, code := jdk_52_method_83_code, exceptionTable := #[], attributes := #[] }
def k8m10 : Method := { name := "charAt", desc := "([BI)C", sig := { parameters := [(.array .byte), .int], returnType := some .char }, accessFlags := 9, code := some k8c10 }
def k8c11 : Code := { maxStack := 2, maxLocals := 2, code := jdk_52_method_91_code, exceptionTable := #[], attributes := #[] }
def k8m11 : Method := { name := "checkIndex", desc := "(I[B)V", sig := { parameters := [.int, (.array .byte)], returnType := none }, accessFlags := 9, code := some k8c11 }
/-- java/lang/StringUTF16 -/
def k8 : Class := { plain "java/lang/StringUTF16" (some 0) with
  accessFlags := 48
  interfaces := #[]
  cf := some (fileOf pool8 12 #[.nestMembers #[627, 629, 369]] #[{ accessFlags := 0, nameIndex := 9, descriptorIndex := 10, attributes := #[] }, { accessFlags := 9, nameIndex := 109, descriptorIndex := 110, attributes := #[] }, { accessFlags := 9, nameIndex := 15, descriptorIndex := 16, attributes := #[] }, { accessFlags := 8, nameIndex := 113, descriptorIndex := 114, attributes := #[] }, { accessFlags := 8, nameIndex := 73, descriptorIndex := 74, attributes := #[] }, { accessFlags := 9, nameIndex := 50, descriptorIndex := 51, attributes := #[] }, { accessFlags := 9, nameIndex := 121, descriptorIndex := 122, attributes := #[] }, { accessFlags := 8, nameIndex := 261, descriptorIndex := 262, attributes := #[] }, { accessFlags := 9, nameIndex := 117, descriptorIndex := 122, attributes := #[] }, { accessFlags := 9, nameIndex := 117, descriptorIndex := 118, attributes := #[] }, { accessFlags := 9, nameIndex := 392, descriptorIndex := 74, attributes := #[] }, { accessFlags := 9, nameIndex := 69, descriptorIndex := 70, attributes := #[] }] 48 6 #[] #[{ accessFlags := 26, nameIndex := 61, descriptorIndex := 62, attributes := #[] }, { accessFlags := 26, nameIndex := 65, descriptorIndex := 62, attributes := #[] }, { accessFlags := 24, nameIndex := 430, descriptorIndex := 62, attributes := #[] }, { accessFlags := 4120, nameIndex := 46, descriptorIndex := 47, attributes := #[] }])
  fields := #[{ name := "HI_BYTE_SHIFT", type := .int, accessFlags := 26, slot := 0, constantValue := 0 }, { name := "LO_BYTE_SHIFT", type := .int, accessFlags := 26, slot := 1, constantValue := 0 }, { name := "MAX_LENGTH", type := .int, accessFlags := 24, slot := 2, constantValue := 0 }, { name := "$assertionsDisabled", type := .boolean, accessFlags := 4120, slot := 3, constantValue := 0 }]
  methods := #[k8m0, k8m1, k8m2, k8m3, k8m4, k8m5, k8m6, k8m7, k8m8, k8m9, k8m10, k8m11]
  instanceTypes := #[]
  staticTypes := #[.int, .int, .int, .boolean]
  resolved := Array.replicate 635 none
  statics := some 1 }

def pool9 : Array CpInfo := pool [(1, .methodref 2 3), (0, .class_ 4), (0, .nameAndType 5 6), (0, u "java/lang/Object"), (0, u "<init>"), (0, u "()V"), (0, .fieldref 8 9), (0, .class_ 10), (0, .nameAndType 11 12), (0, u "com/example/sayso/sayso/TextCursor"), (0, u "text"), (0, u "Ljava/lang/String;"), (13, u "(Ljava/lang/String;)V"), (19, u "depth"), (0, u "I"), (25, u "(C)Z"), (0, .fieldref 8 75), (0, .nameAndType 76 47), (0, u "position"), (0, .methodref 78 79), (0, .class_ 80), (0, .nameAndType 81 82), (0, u "java/lang/String"), (0, u "length"), (0, u "()I"), (0, .methodref 78 84), (0, .nameAndType 85 86), (0, u "charAt"), (0, u "(I)C"), (21, u "at"), (20, u "MAX_DEPTH")] 39

def k9c0 : Code := { maxStack := 2, maxLocals := 2, code := prog_91_method_1_code, exceptionTable := #[], attributes := #[] }
def k9m0 : Method := { name := "<init>", desc := "(Ljava/lang/String;)V", sig := { parameters := [(.object "java/lang/String")], returnType := none }, accessFlags := 0, code := some k9c0 }
def k9c1 : Code := { maxStack := 2, maxLocals := 2, code := prog_91_method_8_code, exceptionTable := #[], attributes := #[] }
def k9m1 : Method := { name := "at", desc := "(C)Z", sig := { parameters := [.char], returnType := some .boolean }, accessFlags := 0, code := some k9c1 }
/-- com/example/sayso/sayso/TextCursor -/
def k9 : Class := { plain "com/example/sayso/sayso/TextCursor" (some 0) with
  accessFlags := 32
  interfaces := #[]
  cf := some (fileOf pool9 8 #[] #[{ accessFlags := 0, nameIndex := 5, descriptorIndex := 26, attributes := #[] }, { accessFlags := 0, nameIndex := 108, descriptorIndex := 73, attributes := #[] }] 32 2 #[] #[{ accessFlags := 24, nameIndex := 129, descriptorIndex := 47, attributes := #[] }, { accessFlags := 16, nameIndex := 11, descriptorIndex := 12, attributes := #[] }, { accessFlags := 0, nameIndex := 76, descriptorIndex := 47, attributes := #[] }, { accessFlags := 2, nameIndex := 46, descriptorIndex := 47, attributes := #[] }])
  fields := #[{ name := "MAX_DEPTH", type := .int, accessFlags := 24, slot := 0, constantValue := 0 }, { name := "text", type := (.object "java/lang/String"), accessFlags := 16, slot := 0, constantValue := 0 }, { name := "position", type := .int, accessFlags := 0, slot := 1, constantValue := 0 }, { name := "depth", type := .int, accessFlags := 2, slot := 2, constantValue := 0 }]
  methods := #[k9m0, k9m1]
  instanceTypes := #[(.object "java/lang/String"), .int, .int]
  staticTypes := #[.int]
  resolved := Array.replicate 169 none
  statics := none }

def pool10 : Array CpInfo := pool [(1, .class_ 2), (0, u "java/lang/String"), (1, .class_ 6), (1, u "java/lang/Object"), (0, u "<init>"), (0, u "()V"), (0, .methodref 1 10), (0, .nameAndType 11 12), (0, u "checkIndex"), (0, u "(II)V"), (1, .class_ 16), (1, u "java/lang/StringLatin1"), (36, u "([BI)C"), (67, u "$assertionsDisabled"), (0, u "Z"), (98, .class_ 223), (1, u "java/lang/StringLatin1$LinesSpliterator"), (28, u "charAt"), (137, .class_ 391), (0, u "java/lang/StringLatin1$CharsSpliterator")] 3

def k10m0 : Method := { name := "<init>", desc := "()V", sig := { parameters := [], returnType := none }, accessFlags := 0, code := none }
def k10c1 : Code := { maxStack := 2, maxLocals := 2, code := jdk_43_method_2_code, exceptionTable := #[], attributes := #[] }
def k10m1 : Method := { name := "charAt", desc := "([BI)C", sig := { parameters := [(.array .byte), .int], returnType := some .char }, accessFlags := 9, code := some k10c1 }
/-- java/lang/StringLatin1 -/
def k10 : Class := { plain "java/lang/StringLatin1" (some 0) with
  accessFlags := 48
  interfaces := #[]
  cf := some (fileOf pool10 14 #[.nestMembers #[390, 221]] #[{ accessFlags := 0, nameIndex := 7, descriptorIndex := 8, attributes := #[] }, { accessFlags := 9, nameIndex := 252, descriptorIndex := 53, attributes := #[] }] 48 4 #[] #[{ accessFlags := 4120, nameIndex := 121, descriptorIndex := 122, attributes := #[] }])
  fields := #[{ name := "$assertionsDisabled", type := .boolean, accessFlags := 4120, slot := 0, constantValue := 0 }]
  methods := #[k10m0, k10m1]
  instanceTypes := #[]
  staticTypes := #[.boolean]
  resolved := Array.replicate 395 none
  statics := none }

def pool11 : Array CpInfo := pool [(2, .class_ 4), (1, u "java/lang/Object"), (0, u "<init>"), (0, u "()V"), (17, .class_ 26), (1, u "jdk/internal/util/Preconditions"), (6, u "checkIndex"), (21, .class_ 56), (0, u "jdk/internal/util/Preconditions$4"), (57, .class_ 115), (0, u "jdk/internal/util/Preconditions$1"), (7, u "SIOOBE_FORMATTER"), (0, u "Ljava/util/function/BiFunction;"), (0, .class_ 126), (0, u "jdk/internal/util/Preconditions$2"), (3, u "AIOOBE_FORMATTER"), (0, .class_ 132), (0, u "jdk/internal/util/Preconditions$3"), (3, u "IOOBE_FORMATTER"), (41, u "(IILjava/util/function/BiFunction;)I")] 15

def k11m0 : Method := { name := "<init>", desc := "()V", sig := { parameters := [], returnType := none }, accessFlags := 1, code := none }
def k11c1 : Code := { maxStack := 3, maxLocals := 3, code := jdk_41_method_11_code, exceptionTable := #[], attributes := #[] }
def k11m1 : Method := { name := "checkIndex", desc := "(IILjava/util/function/BiFunction;)I", sig := { parameters := [.int, .int, (.object "java/util/function/BiFunction")], returnType := some .int }, accessFlags := 9, code := some k11c1 }
/-- jdk/internal/util/Preconditions -/
def k11 : Class := { plain "jdk/internal/util/Preconditions" (some 0) with
  accessFlags := 33
  interfaces := #[]
  cf := some (fileOf pool11 24 #[.nestMembers #[55, 131, 125, 114]] #[{ accessFlags := 1, nameIndex := 5, descriptorIndex := 6, attributes := #[] }, { accessFlags := 9, nameIndex := 33, descriptorIndex := 178, attributes := #[] }] 33 2 #[] #[{ accessFlags := 25, nameIndex := 123, descriptorIndex := 124, attributes := #[] }, { accessFlags := 25, nameIndex := 130, descriptorIndex := 124, attributes := #[] }, { accessFlags := 25, nameIndex := 136, descriptorIndex := 124, attributes := #[] }])
  fields := #[{ name := "SIOOBE_FORMATTER", type := (.object "java/util/function/BiFunction"), accessFlags := 25, slot := 0, constantValue := 0 }, { name := "AIOOBE_FORMATTER", type := (.object "java/util/function/BiFunction"), accessFlags := 25, slot := 1, constantValue := 0 }, { name := "IOOBE_FORMATTER", type := (.object "java/util/function/BiFunction"), accessFlags := 25, slot := 2, constantValue := 0 }]
  methods := #[k11m0, k11m1]
  instanceTypes := #[]
  staticTypes := #[(.object "java/util/function/BiFunction"), (.object "java/util/function/BiFunction"), (.object "java/util/function/BiFunction")]
  resolved := Array.replicate 194 none
  statics := some 2 }

def pool12 : Array CpInfo := pool [(9, u "<init>"), (6, .class_ 18), (1, u "java/lang/Object"), (0, u "()V"), (1, .class_ 23), (1, u "jdk/internal/util/ArraysSupport"), (0, u "LOG2_ARRAY_LONG_INDEX_SCALE"), (0, u "I"), (2, u "U"), (0, u "Ljdk/internal/misc/Unsafe;"), (8, u "BIG_ENDIAN"), (0, u "Z"), (8, u "LOG2_BYTE_BIT_SIZE"), (4, u "LOG2_ARRAY_INT_INDEX_SCALE"), (54, u "JLA"), (0, u "Ljdk/internal/access/JavaLangAccess;"), (11, u "LOG2_ARRAY_BOOLEAN_INDEX_SCALE"), (9, u "LOG2_ARRAY_BYTE_INDEX_SCALE"), (5, u "LOG2_ARRAY_CHAR_INDEX_SCALE"), (5, u "LOG2_ARRAY_SHORT_INDEX_SCALE"), (18, u "LOG2_ARRAY_FLOAT_INDEX_SCALE"), (24, u "LOG2_ARRAY_DOUBLE_INDEX_SCALE"), (89, u "T_BOOLEAN"), (2, u "T_CHAR"), (1, u "T_FLOAT"), (1, u "T_DOUBLE"), (1, u "T_BYTE"), (1, u "T_SHORT"), (1, u "T_INT"), (1, u "T_LONG"), (1, u "SOFT_MAX_ARRAY_LENGTH")] 83

def k12m0 : Method := { name := "<init>", desc := "()V", sig := { parameters := [], returnType := none }, accessFlags := 2, code := none }
/-- jdk/internal/util/ArraysSupport -/
def k12 : Class := { plain "jdk/internal/util/ArraysSupport" (some 0) with
  accessFlags := 33
  interfaces := #[]
  cf := some (fileOf pool12 21 #[] #[{ accessFlags := 2, nameIndex := 9, descriptorIndex := 19, attributes := #[] }] 33 16 #[] #[{ accessFlags := 24, nameIndex := 28, descriptorIndex := 29, attributes := #[] }, { accessFlags := 26, nameIndex := 38, descriptorIndex := 39, attributes := #[] }, { accessFlags := 25, nameIndex := 121, descriptorIndex := 25, attributes := #[] }, { accessFlags := 25, nameIndex := 131, descriptorIndex := 25, attributes := #[] }, { accessFlags := 25, nameIndex := 137, descriptorIndex := 25, attributes := #[] }, { accessFlags := 25, nameIndex := 143, descriptorIndex := 25, attributes := #[] }, { accessFlags := 25, nameIndex := 53, descriptorIndex := 25, attributes := #[] }, { accessFlags := 25, nameIndex := 24, descriptorIndex := 25, attributes := #[] }, { accessFlags := 25, nameIndex := 162, descriptorIndex := 25, attributes := #[] }, { accessFlags := 25, nameIndex := 187, descriptorIndex := 25, attributes := #[] }, { accessFlags := 26, nameIndex := 48, descriptorIndex := 25, attributes := #[] }, { accessFlags := 25, nameIndex := 277, descriptorIndex := 25, attributes := #[] }, { accessFlags := 25, nameIndex := 280, descriptorIndex := 25, attributes := #[] }, { accessFlags := 25, nameIndex := 282, descriptorIndex := 25, attributes := #[] }, { accessFlags := 25, nameIndex := 284, descriptorIndex := 25, attributes := #[] }, { accessFlags := 25, nameIndex := 286, descriptorIndex := 25, attributes := #[] }, { accessFlags := 25, nameIndex := 288, descriptorIndex := 25, attributes := #[] }, { accessFlags := 25, nameIndex := 290, descriptorIndex := 25, attributes := #[] }, { accessFlags := 25, nameIndex := 292, descriptorIndex := 25, attributes := #[] }, { accessFlags := 26, nameIndex := 108, descriptorIndex := 109, attributes := #[] }, { accessFlags := 25, nameIndex := 294, descriptorIndex := 25, attributes := #[] }])
  fields := #[{ name := "U", type := (.object "jdk/internal/misc/Unsafe"), accessFlags := 24, slot := 0, constantValue := 0 }, { name := "BIG_ENDIAN", type := .boolean, accessFlags := 26, slot := 1, constantValue := 0 }, { name := "LOG2_ARRAY_BOOLEAN_INDEX_SCALE", type := .int, accessFlags := 25, slot := 2, constantValue := 0 }, { name := "LOG2_ARRAY_BYTE_INDEX_SCALE", type := .int, accessFlags := 25, slot := 3, constantValue := 0 }, { name := "LOG2_ARRAY_CHAR_INDEX_SCALE", type := .int, accessFlags := 25, slot := 4, constantValue := 0 }, { name := "LOG2_ARRAY_SHORT_INDEX_SCALE", type := .int, accessFlags := 25, slot := 5, constantValue := 0 }, { name := "LOG2_ARRAY_INT_INDEX_SCALE", type := .int, accessFlags := 25, slot := 6, constantValue := 0 }, { name := "LOG2_ARRAY_LONG_INDEX_SCALE", type := .int, accessFlags := 25, slot := 7, constantValue := 0 }, { name := "LOG2_ARRAY_FLOAT_INDEX_SCALE", type := .int, accessFlags := 25, slot := 8, constantValue := 0 }, { name := "LOG2_ARRAY_DOUBLE_INDEX_SCALE", type := .int, accessFlags := 25, slot := 9, constantValue := 0 }, { name := "LOG2_BYTE_BIT_SIZE", type := .int, accessFlags := 26, slot := 10, constantValue := 0 }, { name := "T_BOOLEAN", type := .int, accessFlags := 25, slot := 11, constantValue := 0 }, { name := "T_CHAR", type := .int, accessFlags := 25, slot := 12, constantValue := 0 }, { name := "T_FLOAT", type := .int, accessFlags := 25, slot := 13, constantValue := 0 }, { name := "T_DOUBLE", type := .int, accessFlags := 25, slot := 14, constantValue := 0 }, { name := "T_BYTE", type := .int, accessFlags := 25, slot := 15, constantValue := 0 }, { name := "T_SHORT", type := .int, accessFlags := 25, slot := 16, constantValue := 0 }, { name := "T_INT", type := .int, accessFlags := 25, slot := 17, constantValue := 0 }, { name := "T_LONG", type := .int, accessFlags := 25, slot := 18, constantValue := 0 }, { name := "JLA", type := (.object "jdk/internal/access/JavaLangAccess"), accessFlags := 26, slot := 19, constantValue := 0 }, { name := "SOFT_MAX_ARRAY_LENGTH", type := .int, accessFlags := 25, slot := 20, constantValue := 0 }]
  methods := #[k12m0]
  instanceTypes := #[]
  staticTypes := #[(.object "jdk/internal/misc/Unsafe"), .boolean, .int, .int, .int, .int, .int, .int, .int, .int, .int, .int, .int, .int, .int, .int, .int, .int, .int, (.object "jdk/internal/access/JavaLangAccess"), .int]
  resolved := Array.replicate 378 none
  statics := none }

def pool13 : Array CpInfo := pool [(1, u "java/lang/Cloneable"), (0, .class_ 1), (0, u "java/lang/Object"), (0, .class_ 3)] 3

/-- java/lang/Cloneable -/
def k13 : Class := { plain "java/lang/Cloneable" (some 0) with
  accessFlags := 1537
  interfaces := #[]
  cf := some (fileOf pool13 2 #[] #[] 1537 4 #[] #[])
  fields := #[]
  methods := #[]
  instanceTypes := #[]
  staticTypes := #[]
  resolved := Array.replicate 8 none
  statics := none }

/-- the primitive byte -/
def k14 : Class := { plain "byte" none with kind := .primitive 'B', accessFlags := 0x411 }
/-- [B -/
def k15 : Class := { plain "[B" (some 0) with kind := .array 14 .byte, interfaces := #[13, 2], accessFlags := 1041 }

/-- the primitive char -/
def k16 : Class := { plain "char" none with kind := .primitive 'C', accessFlags := 0x411 }
/-- [C -/
def k17 : Class := { plain "[C" (some 0) with kind := .array 16 .char, interfaces := #[13, 2], accessFlags := 1041 }

/-- the primitive int -/
def k18 : Class := { plain "int" none with kind := .primitive 'I', accessFlags := 0x411 }
/-- [I -/
def k19 : Class := { plain "[I" (some 0) with kind := .array 18 .int, interfaces := #[13, 2], accessFlags := 1041 }

def heap : Heap := #[{ cls := 7, slots := #[.long 0, .int 1, .null, .int 0, .null, .int 0, .int 0], vm := .statics 7 },
  { cls := 8, slots := #[.int 0, .int 8, .int 0, .int 1], vm := .statics 8 },
  { cls := 11, slots := #[.null, .null, .null], vm := .statics 11 }]
def classes : Array Class := #[k0, k1, k2, k3, k4, k5, k6, k7, k8, k9, k10, k11, k12, k13, k14, k15, k16, k17, k18, k19]
def interned : List (Array UInt16 × Addr) := []
def slotsUsed : Nat := 14
def theMethod : MethodId := ⟨1, 2⟩
def args0 : Array Value := #[.int 4194369, .int 300, .int 3, .int 1, .int 3, .int 66]
def aboutOver (below : List Frame) : State where
  vm := { classes := classes, interned := interned.toArray }
  heap := heap
  slotsUsed := slotsUsed
  threads := #[{ frames := .invoking theMethod args0 :: below }]
def below0 : List Frame := [.native { method := ⟨0, 0⟩, args := #[] }]
def about1 : State := aboutOver below0
def p0 : Program := .bare "" "" ""
def e0 : Env := launch0.env 0 0 0
theorem w_frames : about1.frames = Frame.invoking theMethod args0 :: below0 := rfl
set_option maxRecDepth 65536 in
theorem w_args : argsFit about1.vm theMethod args0 = true := by decide +kernel
set_option maxRecDepth 65536 in
theorem w_heap : heapFits about1 = true := by decide +kernel
set_option maxRecDepth 65536 in
theorem w_runnable : about1.curStatus? = some .runnable := by decide +kernel
set_option maxRecDepth 65536 in
theorem w_alone : about1.alone = true := by decide +kernel
set_option maxRecDepth 65536 in
theorem w_named : about1.methodNamed? x = some theMethod := by decide +kernel
set_option maxRecDepth 65536 in
theorem w_hears : about1.hears theMethod below0 = true := by decide +kernel
set_option maxRecDepth 65536 in
theorem w_ripe : about1.ripe theMethod args0 below0 = true := by decide +kernel
theorem w_running : about1.status = .running := rfl
set_option maxRecDepth 65536 in
theorem w_room : about1.hasRoom e0.platform room_1 = true :=
  launch0.hasRoom_least _ room_1 (by decide +kernel) (by decide +kernel) (by decide +kernel) (by decide +kernel) (by decide +kernel) (by decide +kernel)
theorem allAtoms_all (ts : List Jvm.Cond) (a : Array Jvm.Value) (st : Jvm.State) : (allAtoms ts).before a st = ts.all (fun c => c.before a st) := by
  induction ts with
  | nil => rfl
  | cons c t ih =>
    show (Jvm.Cond.and c (allAtoms t)).before a st = _
    rw [Jvm.Cond.before_and, ih, List.all_cons]
def words1 : List Jvm.Cond := Jvm.Cond.code x code maxLocals ret :: tables_1
/-- a 'code' word, met by the world's own term for the bytes: nothing is compared byte by byte -/
theorem code_word {y : MethodName} {bytes : ByteArray} {mx : Nat} {rt : Option FieldType} {a : Array Value} {s : State} {m : MethodId} {meth : Method} {c : Code} (h1 : s.methodNamed? y = some m) (h2 : s.vm.method? m = some meth) (h3 : meth.code = some c) (h4 : c.code = bytes)
    (h5 : (c.maxLocals == mx && c.exceptionTable.isEmpty && decide (c.maxStack ≤ mostOperands) && decide (meth.sig.returnType = rt) && !meth.locks && decide (parseMethodDescriptor y.desc = some meth.sig)) = true) : (Jvm.Cond.code y bytes mx rt).before a s = true := by
  simp only [Bool.and_eq_true, beq_iff_eq, Bool.not_eq_true', decide_eq_true_eq] at h5
  obtain ⟨⟨⟨⟨⟨g1, g2⟩, g3⟩, g4⟩, g5⟩, g6⟩ := h5
  simp [Cond.before, Cond.holds, Cond.value, h1, h2, h3, h4, g1, g2, g3, g4, g5, g6]
def isCode : Jvm.Cond → Bool
  | .code _ _ _ _ => true
  | _ => false
theorem all_split {L : List Jvm.Cond} {P : Jvm.Cond → Bool} (h1 : L.all (fun c => isCode c || P c) = true) (h2 : ∀ c ∈ L.filter isCode, P c = true) : L.all P = true := by
  refine List.all_eq_true.mpr fun c hc => ?_
  have h := List.all_eq_true.mp h1 c hc
  rcases Bool.eq_false_or_eq_true (isCode c) with hi | hi
  · exact h2 c (List.mem_filter.mpr ⟨hc, hi⟩)
  · simpa [hi] using h
set_option maxRecDepth 65536 in
theorem w_c0 : (Jvm.Cond.code x code maxLocals ret).before args0 about1 = true := code_word (m := ⟨1, 2⟩) (meth := k1m2) (c := k1c2) (by decide +kernel) rfl rfl rfl (by decide +kernel)
set_option maxRecDepth 65536 in
theorem w_c1 : (Jvm.Cond.code ({ cls := "com/example/sayso/sayso/TextCursorAtPinLaw", name := "make", desc := "(ICCC)Ljava/lang/String;" } : Jvm.MethodName) method_2_code (4 : Nat) (Option.some (Jvm.ClassFile.FieldType.object "java/lang/String"))).before args0 about1 = true := code_word (m := ⟨1, 1⟩) (meth := k1m1) (c := k1c1) (by decide +kernel) rfl rfl rfl (by decide +kernel)
set_option maxRecDepth 65536 in
theorem w_c2 : (Jvm.Cond.code ({ cls := "java/lang/String", name := "<init>", desc := "([C)V" } : Jvm.MethodName) jdk_42_method_3_code (2 : Nat) (Option.none : Option Jvm.ClassFile.FieldType)).before args0 about1 = true := code_word (m := ⟨7, 1⟩) (meth := k7m1) (c := k7c1) (by decide +kernel) rfl rfl rfl (by decide +kernel)
set_option maxRecDepth 65536 in
theorem w_c3 : (Jvm.Cond.code ({ cls := "java/lang/String", name := "<init>", desc := "([CIILjava/lang/Void;)V" } : Jvm.MethodName) jdk_42_method_149_code (6 : Nat) (Option.none : Option Jvm.ClassFile.FieldType)).before args0 about1 = true := code_word (m := ⟨7, 4⟩) (meth := k7m4) (c := k7c4) (by decide +kernel) rfl rfl rfl (by decide +kernel)
set_option maxRecDepth 65536 in
theorem w_c4 : (Jvm.Cond.code ({ cls := "java/lang/Object", name := "<init>", desc := "()V" } : Jvm.MethodName) object_method_1_code (1 : Nat) (Option.none : Option Jvm.ClassFile.FieldType)).before args0 about1 = true := code_word (m := ⟨0, 0⟩) (meth := k0m0) (c := k0c0) (by decide +kernel) rfl rfl rfl (by decide +kernel)
set_option maxRecDepth 65536 in
theorem w_c5 : (Jvm.Cond.code ({ cls := "java/lang/StringUTF16", name := "compress", desc := "([CII)[B" } : Jvm.MethodName) jdk_52_method_16_code (6 : Nat) (Option.some (Jvm.ClassFile.FieldType.array Jvm.ClassFile.FieldType.byte))).before args0 about1 = true := code_word (m := ⟨8, 8⟩) (meth := k8m8) (c := k8c8) (by decide +kernel) rfl rfl rfl (by decide +kernel)
set_option maxRecDepth 65536 in
theorem w_c6 : (Jvm.Cond.code ({ cls := "java/lang/StringUTF16", name := "compress", desc := "([CI[BII)I" } : Jvm.MethodName) jdk_52_method_21_code (7 : Nat) (Option.some Jvm.ClassFile.FieldType.int)).before args0 about1 = true := code_word (m := ⟨8, 9⟩) (meth := k8m9) (c := k8c9) (by decide +kernel) rfl rfl rfl (by decide +kernel)
set_option maxRecDepth 65536 in
theorem w_c7 : (Jvm.Cond.code ({ cls := "java/lang/StringUTF16", name := "coderFromArrayLen", desc := "([BI)B" } : Jvm.MethodName) jdk_52_method_15_code (2 : Nat) (Option.some Jvm.ClassFile.FieldType.byte)).before args0 about1 = true := code_word (m := ⟨8, 7⟩) (meth := k8m7) (c := k8c7) (by decide +kernel) rfl rfl rfl (by decide +kernel)
set_option maxRecDepth 65536 in
theorem w_c8 : (Jvm.Cond.code ({ cls := "com/example/sayso/sayso/TextCursor", name := "<init>", desc := "(Ljava/lang/String;)V" } : Jvm.MethodName) prog_91_method_1_code (2 : Nat) (Option.none : Option Jvm.ClassFile.FieldType)).before args0 about1 = true := code_word (m := ⟨9, 0⟩) (meth := k9m0) (c := k9c0) (by decide +kernel) rfl rfl rfl (by decide +kernel)
set_option maxRecDepth 65536 in
theorem w_c9 : (Jvm.Cond.code ({ cls := "com/example/sayso/sayso/TextCursor", name := "at", desc := "(C)Z" } : Jvm.MethodName) prog_91_method_8_code (2 : Nat) (Option.some Jvm.ClassFile.FieldType.boolean)).before args0 about1 = true := code_word (m := ⟨9, 1⟩) (meth := k9m1) (c := k9c1) (by decide +kernel) rfl rfl rfl (by decide +kernel)
set_option maxRecDepth 65536 in
theorem w_c10 : (Jvm.Cond.code ({ cls := "java/lang/String", name := "length", desc := "()I" } : Jvm.MethodName) jdk_42_method_54_code (1 : Nat) (Option.some Jvm.ClassFile.FieldType.int)).before args0 about1 = true := code_word (m := ⟨7, 2⟩) (meth := k7m2) (c := k7c2) (by decide +kernel) rfl rfl rfl (by decide +kernel)
set_option maxRecDepth 65536 in
theorem w_c11 : (Jvm.Cond.code ({ cls := "java/lang/String", name := "coder", desc := "()B" } : Jvm.MethodName) jdk_42_method_152_code (1 : Nat) (Option.some Jvm.ClassFile.FieldType.byte)).before args0 about1 = true := code_word (m := ⟨7, 5⟩) (meth := k7m5) (c := k7c5) (by decide +kernel) rfl rfl rfl (by decide +kernel)
set_option maxRecDepth 65536 in
theorem w_c12 : (Jvm.Cond.code ({ cls := "java/lang/String", name := "charAt", desc := "(I)C" } : Jvm.MethodName) jdk_42_method_56_code (2 : Nat) (Option.some Jvm.ClassFile.FieldType.char)).before args0 about1 = true := code_word (m := ⟨7, 3⟩) (meth := k7m3) (c := k7c3) (by decide +kernel) rfl rfl rfl (by decide +kernel)
set_option maxRecDepth 65536 in
theorem w_c13 : (Jvm.Cond.code ({ cls := "java/lang/String", name := "isLatin1", desc := "()Z" } : Jvm.MethodName) jdk_42_method_154_code (1 : Nat) (Option.some Jvm.ClassFile.FieldType.boolean)).before args0 about1 = true := code_word (m := ⟨7, 6⟩) (meth := k7m6) (c := k7c6) (by decide +kernel) rfl rfl rfl (by decide +kernel)
set_option maxRecDepth 65536 in
theorem w_c14 : (Jvm.Cond.code ({ cls := "java/lang/StringLatin1", name := "charAt", desc := "([BI)C" } : Jvm.MethodName) jdk_43_method_2_code (2 : Nat) (Option.some Jvm.ClassFile.FieldType.char)).before args0 about1 = true := code_word (m := ⟨10, 1⟩) (meth := k10m1) (c := k10c1) (by decide +kernel) rfl rfl rfl (by decide +kernel)
set_option maxRecDepth 65536 in
theorem w_c15 : (Jvm.Cond.code ({ cls := "java/lang/String", name := "checkIndex", desc := "(II)V" } : Jvm.MethodName) jdk_42_method_155_code (2 : Nat) (Option.none : Option Jvm.ClassFile.FieldType)).before args0 about1 = true := code_word (m := ⟨7, 7⟩) (meth := k7m7) (c := k7c7) (by decide +kernel) rfl rfl rfl (by decide +kernel)
set_option maxRecDepth 65536 in
theorem w_c16 : (Jvm.Cond.code ({ cls := "jdk/internal/util/Preconditions", name := "checkIndex", desc := "(IILjava/util/function/BiFunction;)I" } : Jvm.MethodName) jdk_41_method_11_code (3 : Nat) (Option.some Jvm.ClassFile.FieldType.int)).before args0 about1 = true := code_word (m := ⟨11, 1⟩) (meth := k11m1) (c := k11c1) (by decide +kernel) rfl rfl rfl (by decide +kernel)
set_option maxRecDepth 65536 in
theorem w_c17 : (Jvm.Cond.code ({ cls := "java/lang/StringUTF16", name := "toBytes", desc := "([CII)[B" } : Jvm.MethodName) jdk_52_method_14_code (5 : Nat) (Option.some (Jvm.ClassFile.FieldType.array Jvm.ClassFile.FieldType.byte))).before args0 about1 = true := code_word (m := ⟨8, 6⟩) (meth := k8m6) (c := k8c6) (by decide +kernel) rfl rfl rfl (by decide +kernel)
set_option maxRecDepth 65536 in
theorem w_c18 : (Jvm.Cond.code ({ cls := "java/lang/StringUTF16", name := "newBytesFor", desc := "(I)[B" } : Jvm.MethodName) jdk_52_method_2_code (1 : Nat) (Option.some (Jvm.ClassFile.FieldType.array Jvm.ClassFile.FieldType.byte))).before args0 about1 = true := code_word (m := ⟨8, 1⟩) (meth := k8m1) (c := k8c1) (by decide +kernel) rfl rfl rfl (by decide +kernel)
set_option maxRecDepth 65536 in
theorem w_c19 : (Jvm.Cond.code ({ cls := "java/lang/StringUTF16", name := "newBytesLength", desc := "(I)I" } : Jvm.MethodName) jdk_52_method_3_code (1 : Nat) (Option.some Jvm.ClassFile.FieldType.int)).before args0 about1 = true := code_word (m := ⟨8, 2⟩) (meth := k8m2) (c := k8c2) (by decide +kernel) rfl rfl rfl (by decide +kernel)
set_option maxRecDepth 65536 in
theorem w_c20 : (Jvm.Cond.code ({ cls := "java/lang/StringUTF16", name := "putChar", desc := "([BII)V" } : Jvm.MethodName) jdk_52_method_4_code (3 : Nat) (Option.none : Option Jvm.ClassFile.FieldType)).before args0 about1 = true := code_word (m := ⟨8, 3⟩) (meth := k8m3) (c := k8c3) (by decide +kernel) rfl rfl rfl (by decide +kernel)
set_option maxRecDepth 65536 in
theorem w_c21 : (Jvm.Cond.code ({ cls := "java/lang/StringUTF16", name := "getChar", desc := "([BI)C" } : Jvm.MethodName) jdk_52_method_5_code (2 : Nat) (Option.some Jvm.ClassFile.FieldType.char)).before args0 about1 = true := code_word (m := ⟨8, 4⟩) (meth := k8m4) (c := k8c4) (by decide +kernel) rfl rfl rfl (by decide +kernel)
set_option maxRecDepth 65536 in
theorem w_c22 : (Jvm.Cond.code ({ cls := "java/lang/StringUTF16", name := "charAt", desc := "([BI)C" } : Jvm.MethodName) jdk_52_method_83_code (2 : Nat) (Option.some Jvm.ClassFile.FieldType.char)).before args0 about1 = true := code_word (m := ⟨8, 10⟩) (meth := k8m10) (c := k8c10) (by decide +kernel) rfl rfl rfl (by decide +kernel)
set_option maxRecDepth 65536 in
theorem w_c23 : (Jvm.Cond.code ({ cls := "java/lang/StringUTF16", name := "checkIndex", desc := "(I[B)V" } : Jvm.MethodName) jdk_52_method_91_code (2 : Nat) (Option.none : Option Jvm.ClassFile.FieldType)).before args0 about1 = true := code_word (m := ⟨8, 11⟩) (meth := k8m11) (c := k8c11) (by decide +kernel) rfl rfl rfl (by decide +kernel)
set_option maxRecDepth 65536 in
theorem w_c24 : (Jvm.Cond.code ({ cls := "java/lang/StringUTF16", name := "length", desc := "([B)I" } : Jvm.MethodName) jdk_52_method_6_code (1 : Nat) (Option.some Jvm.ClassFile.FieldType.int)).before args0 about1 = true := code_word (m := ⟨8, 5⟩) (meth := k8m5) (c := k8c5) (by decide +kernel) rfl rfl rfl (by decide +kernel)
def codes1 : List Jvm.Cond := [Jvm.Cond.code x code maxLocals ret, Jvm.Cond.code ({ cls := "com/example/sayso/sayso/TextCursorAtPinLaw", name := "make", desc := "(ICCC)Ljava/lang/String;" } : Jvm.MethodName) method_2_code (4 : Nat) (Option.some (Jvm.ClassFile.FieldType.object "java/lang/String")), Jvm.Cond.code ({ cls := "java/lang/String", name := "<init>", desc := "([C)V" } : Jvm.MethodName) jdk_42_method_3_code (2 : Nat) (Option.none : Option Jvm.ClassFile.FieldType), Jvm.Cond.code ({ cls := "java/lang/String", name := "<init>", desc := "([CIILjava/lang/Void;)V" } : Jvm.MethodName) jdk_42_method_149_code (6 : Nat) (Option.none : Option Jvm.ClassFile.FieldType), Jvm.Cond.code ({ cls := "java/lang/Object", name := "<init>", desc := "()V" } : Jvm.MethodName) object_method_1_code (1 : Nat) (Option.none : Option Jvm.ClassFile.FieldType), Jvm.Cond.code ({ cls := "java/lang/StringUTF16", name := "compress", desc := "([CII)[B" } : Jvm.MethodName) jdk_52_method_16_code (6 : Nat) (Option.some (Jvm.ClassFile.FieldType.array Jvm.ClassFile.FieldType.byte)), Jvm.Cond.code ({ cls := "java/lang/StringUTF16", name := "compress", desc := "([CI[BII)I" } : Jvm.MethodName) jdk_52_method_21_code (7 : Nat) (Option.some Jvm.ClassFile.FieldType.int), Jvm.Cond.code ({ cls := "java/lang/StringUTF16", name := "coderFromArrayLen", desc := "([BI)B" } : Jvm.MethodName) jdk_52_method_15_code (2 : Nat) (Option.some Jvm.ClassFile.FieldType.byte), Jvm.Cond.code ({ cls := "com/example/sayso/sayso/TextCursor", name := "<init>", desc := "(Ljava/lang/String;)V" } : Jvm.MethodName) prog_91_method_1_code (2 : Nat) (Option.none : Option Jvm.ClassFile.FieldType), Jvm.Cond.code ({ cls := "com/example/sayso/sayso/TextCursor", name := "at", desc := "(C)Z" } : Jvm.MethodName) prog_91_method_8_code (2 : Nat) (Option.some Jvm.ClassFile.FieldType.boolean), Jvm.Cond.code ({ cls := "java/lang/String", name := "length", desc := "()I" } : Jvm.MethodName) jdk_42_method_54_code (1 : Nat) (Option.some Jvm.ClassFile.FieldType.int), Jvm.Cond.code ({ cls := "java/lang/String", name := "coder", desc := "()B" } : Jvm.MethodName) jdk_42_method_152_code (1 : Nat) (Option.some Jvm.ClassFile.FieldType.byte), Jvm.Cond.code ({ cls := "java/lang/String", name := "charAt", desc := "(I)C" } : Jvm.MethodName) jdk_42_method_56_code (2 : Nat) (Option.some Jvm.ClassFile.FieldType.char), Jvm.Cond.code ({ cls := "java/lang/String", name := "isLatin1", desc := "()Z" } : Jvm.MethodName) jdk_42_method_154_code (1 : Nat) (Option.some Jvm.ClassFile.FieldType.boolean), Jvm.Cond.code ({ cls := "java/lang/StringLatin1", name := "charAt", desc := "([BI)C" } : Jvm.MethodName) jdk_43_method_2_code (2 : Nat) (Option.some Jvm.ClassFile.FieldType.char), Jvm.Cond.code ({ cls := "java/lang/String", name := "checkIndex", desc := "(II)V" } : Jvm.MethodName) jdk_42_method_155_code (2 : Nat) (Option.none : Option Jvm.ClassFile.FieldType), Jvm.Cond.code ({ cls := "jdk/internal/util/Preconditions", name := "checkIndex", desc := "(IILjava/util/function/BiFunction;)I" } : Jvm.MethodName) jdk_41_method_11_code (3 : Nat) (Option.some Jvm.ClassFile.FieldType.int), Jvm.Cond.code ({ cls := "java/lang/StringUTF16", name := "toBytes", desc := "([CII)[B" } : Jvm.MethodName) jdk_52_method_14_code (5 : Nat) (Option.some (Jvm.ClassFile.FieldType.array Jvm.ClassFile.FieldType.byte)), Jvm.Cond.code ({ cls := "java/lang/StringUTF16", name := "newBytesFor", desc := "(I)[B" } : Jvm.MethodName) jdk_52_method_2_code (1 : Nat) (Option.some (Jvm.ClassFile.FieldType.array Jvm.ClassFile.FieldType.byte)), Jvm.Cond.code ({ cls := "java/lang/StringUTF16", name := "newBytesLength", desc := "(I)I" } : Jvm.MethodName) jdk_52_method_3_code (1 : Nat) (Option.some Jvm.ClassFile.FieldType.int), Jvm.Cond.code ({ cls := "java/lang/StringUTF16", name := "putChar", desc := "([BII)V" } : Jvm.MethodName) jdk_52_method_4_code (3 : Nat) (Option.none : Option Jvm.ClassFile.FieldType), Jvm.Cond.code ({ cls := "java/lang/StringUTF16", name := "getChar", desc := "([BI)C" } : Jvm.MethodName) jdk_52_method_5_code (2 : Nat) (Option.some Jvm.ClassFile.FieldType.char), Jvm.Cond.code ({ cls := "java/lang/StringUTF16", name := "charAt", desc := "([BI)C" } : Jvm.MethodName) jdk_52_method_83_code (2 : Nat) (Option.some Jvm.ClassFile.FieldType.char), Jvm.Cond.code ({ cls := "java/lang/StringUTF16", name := "checkIndex", desc := "(I[B)V" } : Jvm.MethodName) jdk_52_method_91_code (2 : Nat) (Option.none : Option Jvm.ClassFile.FieldType), Jvm.Cond.code ({ cls := "java/lang/StringUTF16", name := "length", desc := "([B)I" } : Jvm.MethodName) jdk_52_method_6_code (1 : Nat) (Option.some Jvm.ClassFile.FieldType.int)]
set_option maxRecDepth 65536 in
theorem codes_eq : words1.filter isCode = codes1 := rfl
theorem w_codes : ∀ c ∈ words1.filter isCode, c.before args0 about1 = true := by
  rw [codes_eq]
  intro c hc
  simp only [codes1, List.mem_cons, List.not_mem_nil, or_false] at hc
  rcases hc with rfl | rfl | rfl | rfl | rfl | rfl | rfl | rfl | rfl | rfl | rfl | rfl | rfl | rfl | rfl | rfl | rfl | rfl | rfl | rfl | rfl | rfl | rfl | rfl | rfl
  · exact w_c0
  · exact w_c1
  · exact w_c2
  · exact w_c3
  · exact w_c4
  · exact w_c5
  · exact w_c6
  · exact w_c7
  · exact w_c8
  · exact w_c9
  · exact w_c10
  · exact w_c11
  · exact w_c12
  · exact w_c13
  · exact w_c14
  · exact w_c15
  · exact w_c16
  · exact w_c17
  · exact w_c18
  · exact w_c19
  · exact w_c20
  · exact w_c21
  · exact w_c22
  · exact w_c23
  · exact w_c24
set_option maxRecDepth 65536 in
theorem w_t1 : (words1.take 24).all (fun c => isCode c || c.before args0 about1) = true := by decide +kernel
set_option maxRecDepth 65536 in
theorem w_t2 : ((words1.drop 24).take 24).all (fun c => isCode c || c.before args0 about1) = true := by decide +kernel
set_option maxRecDepth 65536 in
theorem w_t3 : (((words1.drop 24).drop 24).take 24).all (fun c => isCode c || c.before args0 about1) = true := by decide +kernel
set_option maxRecDepth 65536 in
theorem w_t4 : ((((words1.drop 24).drop 24).drop 24).take 24).all (fun c => isCode c || c.before args0 about1) = true := by decide +kernel
set_option maxRecDepth 65536 in
theorem w_t5 : ((((words1.drop 24).drop 24).drop 24).drop 24).all (fun c => isCode c || c.before args0 about1) = true := by decide +kernel
theorem w_tables : (allAtoms (Jvm.Cond.code x code maxLocals ret :: tables_1)).before args0 about1 = true := by
  rw [allAtoms_all]
  show words1.all (fun c => c.before args0 about1) = true
  refine all_split ?_ w_codes
  rw [← List.take_append_drop 24 words1, List.all_append, w_t1, ← List.take_append_drop 24 (words1.drop 24), List.all_append, w_t2, ← List.take_append_drop 24 ((words1.drop 24).drop 24), List.all_append, w_t3, ← List.take_append_drop 24 (((words1.drop 24).drop 24).drop 24), List.all_append, w_t4, w_t5]
  rfl
set_option maxRecDepth 65536 in
theorem w_rest : rest_1_c.before args0 about1 = true := by decide +kernel
set_option maxRecDepth 65536 in
theorem w_case : (Jvm.Cond.and given_1 narrow_1).before args0 about1 = true := by decide +kernel
set_option maxRecDepth 65536 in
theorem w_consts : constsHeld consts_1 about1 := Jvm.Lit.constsHeldB_iff.mp (by decide +kernel)
theorem w_applies : (headSpec (Jvm.Cond.code x code maxLocals ret :: tables_1) room_1).applies x e0.platform about1 = true :=
  (Spec.applies_iff w_frames).mpr ⟨w_running, w_runnable, w_alone, w_named, w_hears, w_ripe, w_room, w_tables⟩
theorem atStart : AtStart classFile x code maxLocals ret World_1 tables_1 room_1 Calls_1 rest_1 Pre_1 launch0 p0 e0 about1 theMethod args0 below0 :=
  ⟨lists_1, trivial, launch0.admits_env _ _ _, launch0.least_env, fairChoices_fair.cas, fairChoices_fair.clock, w_frames, w_args, w_heap, w_applies, ⟨w_consts, trivial⟩, w_rest, w_case⟩
end start1
theorem witness_1 : WitnessClaimed_1 := ⟨start1.p0, start1.e0, start1.about1, start1.theMethod, start1.args0, start1.below0, start1.atStart⟩
end Jvm.Pilot.@@N@@
