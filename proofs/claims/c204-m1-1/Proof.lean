import JvmDerived
import JvmDerived.Pilot.@@N@@Statement
import JvmDerived.Pilot.@@N@@Code
set_option linter.unusedVariables false
set_option linter.unusedSimpArgs false
namespace Jvm.EKit
open Sem ClassFile Op Lib Jvm.Stand Jvm.Free Jvm.LawKit Jvm.RoadKit
/-- from the frame F at T the body comes to a return that answers Q -/
def Ends (p : Program) (l : Launch) (e : Env) (R : Room) (s : State) (m : MethodId) (args : Array Value) (below : List Frame) (meth : Method) (c : Code) (C S : Nat) (Q : Option Value → Heap → List Loc → Prop) (T : State) (F : JFrame) : Prop :=
  ∃ (T' : State) (locs : List Loc) (cells slots : Nat) (v : Option Value), Stand p l e R s m args below meth c T' locs cells slots ∧ Q v T'.heap locs ∧ cells ≤ C ∧ slots ≤ S ∧ (meth.sig.returnType = none → v = none) ∧
    ∀ fs, (∀ (f : JFrame) (acts : List Action), f.method = m → f.locked = none → f.entered = [] → (doReturn e (T'.setTop f) acts v).1 = T'.setFrames fs) → Steps p.tables e below (T.setTop F) (T'.setFrames fs)
/-- the contract of a body -/
def Pays (l : Launch) (Z : State) (y : MethodName) (bytes : ByteArray) (maxL : Nat) (ret : Option FieldType) (ws : List Jvm.Cond) (rm : Room) (as' : Array Value) (h : Heap) (Q : Option Value → Heap → List Loc → Prop) : Prop :=
  MetFree l y (head1 (Jvm.Cond.code y bytes maxL ret :: ws) rm) (fun a U => a = as' ∧ Z.Warmed39 U.vm ∧ U.heap = h) (fun _ _ _ _ _ => True) (fun _ U o U' => ∃ v L, o = .returned v ∧ Q v U'.heap L ∧ FrameEnd U o U' L rm.cells rm.slots)
/-- it returns V and writes nothing -/
def RetQ (V : Option Value) (h : Heap) : Option Value → Heap → List Loc → Prop := fun v h' L => v = V ∧ h' = h ∧ L = []
section
variable {p : Program} {l : Launch} {e : Env} {R : Room} {s : State} {m : MethodId} {args : Array Value} {below : List Frame} {meth : Method} {c : Code} {T : State} {locs : List Loc} {cells slots : Nat} {C S : Nat} {Q : Option Value → Heap → List Loc → Prop} {pc q : Nat} {Ls : Array Slot} {st rest : List Value}
theorem step {T1 : State} {F F1 : JFrame} (h : ∀ t, Steps p.tables e below (T1.setTop F1) t → Steps p.tables e below (T.setTop F) t) (k : Ends p l e R s m args below meth c C S Q T1 F1) : Ends p l e R s m args below meth c C S Q T F := by
  obtain ⟨T', locs, cells, slots, v, h1, h2, h3, h4, h5, h6⟩ := k
  exact ⟨T', locs, cells, slots, v, h1, h2, h3, h4, h5, fun fs hl => h _ (h6 fs hl)⟩
theorem pays {Z : State} {y : MethodName} {bytes : ByteArray} {maxL : Nat} {ret : Option FieldType} {ws : List Jvm.Cond} {rm : Room} {as' : Array Value} {h : Heap} (hpl : plainFor y = true) {F0 : MethodId → JFrame} (hF : ∀ m, entryFrame m as' maxL = F0 m)
    (k : ∀ (p : Program) (e : Env) (s : State) (m : MethodId) (below : List Frame) (meth : Method) (c : Code) (s₁ : State), p.tables.exec = Jvm.exec → c.code = bytes → c.maxLocals = maxL → Z.Warmed39 s.vm → s.vm.findClass y.cls = some m.cls → meth.name = y.name → meth.sig.returnType = ret → Stand p l e rm s m as' below meth c s₁ [] 0 0 → s₁.heap = h → s.heap = h →
      Ends p l e rm s m as' below meth c rm.cells rm.slots Q s₁ (F0 m)) : Pays l Z y bytes maxL ret ws rm as' h Q := by
  refine MetFree.of_bodySF hpl hisR ?_
  intro p e s m args below meth c s₁ Bd hml0 hP hK
  obtain ⟨rfl, hZ, hh⟩ := hP
  obtain ⟨T', locs, cells, slots, v, X, hQ, h3, h4, h5, h6⟩ := k p e s m below meth c s₁ Bd.exec Bd.bytes hml0 hZ (findClass_of_methodNamed Bd.named) (name_of_methodNamed Bd.named Bd.method).1 Bd.returns (Stand.of_body Bd) (by rw [← hh, Bd.state]; rfl) hh
  obtain ⟨fs, hr, hrun, hended, hW, hsame⟩ := X.leave (v := v) h5
  exact ⟨_, _, castTop (hF m) (h6 fs hr), hrun, hended, v, locs, rfl, hQ, ⟨_, rfl⟩, hW, hsame.mono h3 h4⟩
theorem iloadN (X : Stand p l e R s m args below meth c T locs cells slots) (hx : p.tables.exec = Jvm.exec) {k0 : Fin 4} {v : Int32} (hl : Ls[k0.val]? = some (.val (.int v))) (hd : decode c.code pc = .ok (.iload_n k0, 1)) (hq : pc + 1 = q) (k : Ends p l e R s m args below meth c C S Q T (mkF m q Ls (.int v :: st))) : Ends p l e R s m args below meth c C S Q T (mkF m pc Ls (st)) := step (fun _ h => by subst hq; exact XS.iloadN X.here hx rfl hd hl h) k
theorem iload (X : Stand p l e R s m args below meth c T locs cells slots) (hx : p.tables.exec = Jvm.exec) {k0 : Nat} {v : Int32} (hl : Ls[k0]? = some (.val (.int v))) (hd : decode c.code pc = .ok (.iload k0, 2)) (hq : pc + 2 = q) (k : Ends p l e R s m args below meth c C S Q T (mkF m q Ls (.int v :: st))) : Ends p l e R s m args below meth c C S Q T (mkF m pc Ls (st)) := step (fun _ h => by subst hq; exact XS.iload X.here hx rfl hd hl h) k
theorem istoreN (X : Stand p l e R s m args below meth c T locs cells slots) (hx : p.tables.exec = Jvm.exec) {k0 : Fin 4} {v : Int32} {l' : Array Slot} (hl : storeLocals Ls k0.val (.int v) = some l') (hd : decode c.code pc = .ok (.istore_n k0, 1)) (hq : pc + 1 = q) (k : Ends p l e R s m args below meth c C S Q T (mkF m q l' (st))) : Ends p l e R s m args below meth c C S Q T (mkF m pc Ls (.int v :: st)) := step (fun _ h => by subst hq; exact XS.istoreN X.here hx rfl hd rfl hl h) k
theorem istore (X : Stand p l e R s m args below meth c T locs cells slots) (hx : p.tables.exec = Jvm.exec) {k0 : Nat} {v : Int32} {l' : Array Slot} (hl : storeLocals Ls k0 (.int v) = some l') (hd : decode c.code pc = .ok (.istore k0, 2)) (hq : pc + 2 = q) (k : Ends p l e R s m args below meth c C S Q T (mkF m q l' (st))) : Ends p l e R s m args below meth c C S Q T (mkF m pc Ls (.int v :: st)) := step (fun _ h => by subst hq; exact XS.istore X.here hx rfl hd rfl hl h) k
theorem lloadN (X : Stand p l e R s m args below meth c T locs cells slots) (hx : p.tables.exec = Jvm.exec) {k0 : Fin 4} {v : Int64} (hl : Ls[k0.val]? = some (.val (.long v))) (hd : decode c.code pc = .ok (.lload_n k0, 1)) (hq : pc + 1 = q) (k : Ends p l e R s m args below meth c C S Q T (mkF m q Ls (.long v :: st))) : Ends p l e R s m args below meth c C S Q T (mkF m pc Ls (st)) := step (fun _ h => by subst hq; exact XS.lloadN X.here hx rfl hd hl h) k
theorem lload (X : Stand p l e R s m args below meth c T locs cells slots) (hx : p.tables.exec = Jvm.exec) {k0 : Nat} {v : Int64} (hl : Ls[k0]? = some (.val (.long v))) (hd : decode c.code pc = .ok (.lload k0, 2)) (hq : pc + 2 = q) (k : Ends p l e R s m args below meth c C S Q T (mkF m q Ls (.long v :: st))) : Ends p l e R s m args below meth c C S Q T (mkF m pc Ls (st)) := step (fun _ h => by subst hq; exact XS.lload X.here hx rfl hd hl h) k
theorem lstoreN (X : Stand p l e R s m args below meth c T locs cells slots) (hx : p.tables.exec = Jvm.exec) {k0 : Fin 4} {v : Int64} {l' : Array Slot} (hl : storeLocals Ls k0.val (.long v) = some l') (hd : decode c.code pc = .ok (.lstore_n k0, 1)) (hq : pc + 1 = q) (k : Ends p l e R s m args below meth c C S Q T (mkF m q l' (st))) : Ends p l e R s m args below meth c C S Q T (mkF m pc Ls (.long v :: st)) := step (fun _ h => by subst hq; exact XS.lstoreN X.here hx rfl hd rfl hl h) k
theorem lstore (X : Stand p l e R s m args below meth c T locs cells slots) (hx : p.tables.exec = Jvm.exec) {k0 : Nat} {v : Int64} {l' : Array Slot} (hl : storeLocals Ls k0 (.long v) = some l') (hd : decode c.code pc = .ok (.lstore k0, 2)) (hq : pc + 2 = q) (k : Ends p l e R s m args below meth c C S Q T (mkF m q l' (st))) : Ends p l e R s m args below meth c C S Q T (mkF m pc Ls (.long v :: st)) := step (fun _ h => by subst hq; exact XS.lstore X.here hx rfl hd rfl hl h) k
theorem aloadN (X : Stand p l e R s m args below meth c T locs cells slots) (hx : p.tables.exec = Jvm.exec) {k0 : Fin 4} {v : Value} (hl : Ls[k0.val]? = some (.val v)) (hv : v.isRef = true) (hd : decode c.code pc = .ok (.aload_n k0, 1)) (hq : pc + 1 = q) (k : Ends p l e R s m args below meth c C S Q T (mkF m q Ls (v :: st))) : Ends p l e R s m args below meth c C S Q T (mkF m pc Ls (st)) := step (fun _ h => by subst hq; exact XS.aloadN X.here hx rfl hd hl hv h) k
theorem aload (X : Stand p l e R s m args below meth c T locs cells slots) (hx : p.tables.exec = Jvm.exec) {k0 : Nat} {v : Value} (hl : Ls[k0]? = some (.val v)) (hv : v.isRef = true) (hd : decode c.code pc = .ok (.aload k0, 2)) (hq : pc + 2 = q) (k : Ends p l e R s m args below meth c C S Q T (mkF m q Ls (v :: st))) : Ends p l e R s m args below meth c C S Q T (mkF m pc Ls (st)) := step (fun _ h => by subst hq; exact XS.aload X.here hx rfl hd hl hv h) k
theorem astoreN (X : Stand p l e R s m args below meth c T locs cells slots) (hx : p.tables.exec = Jvm.exec) {k0 : Fin 4} {v : Value} {l' : Array Slot} (hv : v.isRef = true) (hl : storeLocals Ls k0.val v = some l') (hd : decode c.code pc = .ok (.astore_n k0, 1)) (hq : pc + 1 = q) (k : Ends p l e R s m args below meth c C S Q T (mkF m q l' (st))) : Ends p l e R s m args below meth c C S Q T (mkF m pc Ls (v :: st)) := step (fun _ h => by subst hq; exact XS.astoreN X.here hx rfl hd rfl hv hl h) k
theorem astore (X : Stand p l e R s m args below meth c T locs cells slots) (hx : p.tables.exec = Jvm.exec) {k0 : Nat} {v : Value} {l' : Array Slot} (hv : v.isRef = true) (hl : storeLocals Ls k0 v = some l') (hd : decode c.code pc = .ok (.astore k0, 2)) (hq : pc + 2 = q) (k : Ends p l e R s m args below meth c C S Q T (mkF m q l' (st))) : Ends p l e R s m args below meth c C S Q T (mkF m pc Ls (v :: st)) := step (fun _ h => by subst hq; exact XS.astore X.here hx rfl hd rfl hv hl h) k
theorem iconst (X : Stand p l e R s m args below meth c T locs cells slots) (hx : p.tables.exec = Jvm.exec) {i : Int} {v : Int32} (hv : Int32.ofInt i = v) (hd : decode c.code pc = .ok (.iconst i, 1)) (hq : pc + 1 = q) (k : Ends p l e R s m args below meth c C S Q T (mkF m q Ls (.int v :: st))) : Ends p l e R s m args below meth c C S Q T (mkF m pc Ls (st)) := step (fun _ h => by subst hq; exact XS.iconst X.here hx rfl hd (by rw [hv]; exact h)) k
theorem bipush (X : Stand p l e R s m args below meth c T locs cells slots) (hx : p.tables.exec = Jvm.exec) {i : Int} {v : Int32} (hv : (Int8.ofInt i).toInt32 = v) (hd : decode c.code pc = .ok (.bipush i, 2)) (hq : pc + 2 = q) (k : Ends p l e R s m args below meth c C S Q T (mkF m q Ls (.int v :: st))) : Ends p l e R s m args below meth c C S Q T (mkF m pc Ls (st)) := step (fun _ h => by subst hq; exact XS.bipush X.here hx rfl hd (by rw [hv]; exact h)) k
theorem sipush (X : Stand p l e R s m args below meth c T locs cells slots) (hx : p.tables.exec = Jvm.exec) {i : Int} {v : Int32} (hv : (Int16.ofInt i).toInt32 = v) (hd : decode c.code pc = .ok (.sipush i, 3)) (hq : pc + 3 = q) (k : Ends p l e R s m args below meth c C S Q T (mkF m q Ls (.int v :: st))) : Ends p l e R s m args below meth c C S Q T (mkF m pc Ls (st)) := step (fun _ h => by subst hq; exact XS.sipush X.here hx rfl hd (by rw [hv]; exact h)) k
theorem lconst (X : Stand p l e R s m args below meth c T locs cells slots) (hx : p.tables.exec = Jvm.exec) {i : Fin 2} {v : Int64} (hv : Int64.ofNat i = v) (hd : decode c.code pc = .ok (.lconst i, 1)) (hq : pc + 1 = q) (k : Ends p l e R s m args below meth c C S Q T (mkF m q Ls (.long v :: st))) : Ends p l e R s m args below meth c C S Q T (mkF m pc Ls (st)) := step (fun _ h => by subst hq; exact XS.lconst X.here hx rfl hd (by rw [hv]; exact h)) k
theorem aconstNull (X : Stand p l e R s m args below meth c T locs cells slots) (hx : p.tables.exec = Jvm.exec)  (hd : decode c.code pc = .ok (.aconst_null, 1)) (hq : pc + 1 = q) (k : Ends p l e R s m args below meth c C S Q T (mkF m q Ls (.null :: st))) : Ends p l e R s m args below meth c C S Q T (mkF m pc Ls (st)) := step (fun _ h => by subst hq; exact XS.aconstNull X.here hx rfl hd h) k
theorem iadd (X : Stand p l e R s m args below meth c T locs cells slots) (hx : p.tables.exec = Jvm.exec) {x y : Int32} (hd : decode c.code pc = .ok (.iadd, 1)) (hq : pc + 1 = q) (k : Ends p l e R s m args below meth c C S Q T (mkF m q Ls (.int (x + y) :: st))) : Ends p l e R s m args below meth c C S Q T (mkF m pc Ls (.int y :: .int x :: st)) := step (fun _ h => by subst hq; exact XS.iadd X.here hx rfl hd rfl h) k
theorem isub (X : Stand p l e R s m args below meth c T locs cells slots) (hx : p.tables.exec = Jvm.exec) {x y : Int32} (hd : decode c.code pc = .ok (.isub, 1)) (hq : pc + 1 = q) (k : Ends p l e R s m args below meth c C S Q T (mkF m q Ls (.int (x - y) :: st))) : Ends p l e R s m args below meth c C S Q T (mkF m pc Ls (.int y :: .int x :: st)) := step (fun _ h => by subst hq; exact XS.isub X.here hx rfl hd rfl h) k
theorem imul (X : Stand p l e R s m args below meth c T locs cells slots) (hx : p.tables.exec = Jvm.exec) {x y : Int32} (hd : decode c.code pc = .ok (.imul, 1)) (hq : pc + 1 = q) (k : Ends p l e R s m args below meth c C S Q T (mkF m q Ls (.int (x * y) :: st))) : Ends p l e R s m args below meth c C S Q T (mkF m pc Ls (.int y :: .int x :: st)) := step (fun _ h => by subst hq; exact XS.imul X.here hx rfl hd rfl h) k
theorem iand (X : Stand p l e R s m args below meth c T locs cells slots) (hx : p.tables.exec = Jvm.exec) {x y : Int32} (hd : decode c.code pc = .ok (.iand, 1)) (hq : pc + 1 = q) (k : Ends p l e R s m args below meth c C S Q T (mkF m q Ls (.int (x &&& y) :: st))) : Ends p l e R s m args below meth c C S Q T (mkF m pc Ls (.int y :: .int x :: st)) := step (fun _ h => by subst hq; exact XS.iand X.here hx rfl hd rfl h) k
theorem ior (X : Stand p l e R s m args below meth c T locs cells slots) (hx : p.tables.exec = Jvm.exec) {x y : Int32} (hd : decode c.code pc = .ok (.ior, 1)) (hq : pc + 1 = q) (k : Ends p l e R s m args below meth c C S Q T (mkF m q Ls (.int (x ||| y) :: st))) : Ends p l e R s m args below meth c C S Q T (mkF m pc Ls (.int y :: .int x :: st)) := step (fun _ h => by subst hq; exact XS.ior X.here hx rfl hd rfl h) k
theorem ixor (X : Stand p l e R s m args below meth c T locs cells slots) (hx : p.tables.exec = Jvm.exec) {x y : Int32} (hd : decode c.code pc = .ok (.ixor, 1)) (hq : pc + 1 = q) (k : Ends p l e R s m args below meth c C S Q T (mkF m q Ls (.int (x ^^^ y) :: st))) : Ends p l e R s m args below meth c C S Q T (mkF m pc Ls (.int y :: .int x :: st)) := step (fun _ h => by subst hq; exact XS.ixor X.here hx rfl hd rfl h) k
theorem ineg (X : Stand p l e R s m args below meth c T locs cells slots) (hx : p.tables.exec = Jvm.exec) {x : Int32} (hd : decode c.code pc = .ok (.ineg, 1)) (hq : pc + 1 = q) (k : Ends p l e R s m args below meth c C S Q T (mkF m q Ls (.int (-x) :: st))) : Ends p l e R s m args below meth c C S Q T (mkF m pc Ls (.int x :: st)) := step (fun _ h => by subst hq; exact XS.ineg X.here hx rfl hd rfl h) k
theorem idiv (X : Stand p l e R s m args below meth c T locs cells slots) (hx : p.tables.exec = Jvm.exec) {x y : Int32} (hy : y ≠ 0) (hd : decode c.code pc = .ok (.idiv, 1)) (hq : pc + 1 = q) (k : Ends p l e R s m args below meth c C S Q T (mkF m q Ls (.int (x / y) :: st))) : Ends p l e R s m args below meth c C S Q T (mkF m pc Ls (.int y :: .int x :: st)) := step (fun _ h => by subst hq; exact XS.idiv X.here hx rfl hd rfl hy h) k
theorem ladd (X : Stand p l e R s m args below meth c T locs cells slots) (hx : p.tables.exec = Jvm.exec) {x y : Int64} (hd : decode c.code pc = .ok (.ladd, 1)) (hq : pc + 1 = q) (k : Ends p l e R s m args below meth c C S Q T (mkF m q Ls (.long (x + y) :: st))) : Ends p l e R s m args below meth c C S Q T (mkF m pc Ls (.long y :: .long x :: st)) := step (fun _ h => by subst hq; exact XS.ladd X.here hx rfl hd rfl h) k
theorem lsub (X : Stand p l e R s m args below meth c T locs cells slots) (hx : p.tables.exec = Jvm.exec) {x y : Int64} (hd : decode c.code pc = .ok (.lsub, 1)) (hq : pc + 1 = q) (k : Ends p l e R s m args below meth c C S Q T (mkF m q Ls (.long (x - y) :: st))) : Ends p l e R s m args below meth c C S Q T (mkF m pc Ls (.long y :: .long x :: st)) := step (fun _ h => by subst hq; exact XS.lsub X.here hx rfl hd rfl h) k
theorem lmul (X : Stand p l e R s m args below meth c T locs cells slots) (hx : p.tables.exec = Jvm.exec) {x y : Int64} (hd : decode c.code pc = .ok (.lmul, 1)) (hq : pc + 1 = q) (k : Ends p l e R s m args below meth c C S Q T (mkF m q Ls (.long (x * y) :: st))) : Ends p l e R s m args below meth c C S Q T (mkF m pc Ls (.long y :: .long x :: st)) := step (fun _ h => by subst hq; exact XS.lmul X.here hx rfl hd rfl h) k
theorem land (X : Stand p l e R s m args below meth c T locs cells slots) (hx : p.tables.exec = Jvm.exec) {x y : Int64} (hd : decode c.code pc = .ok (.land, 1)) (hq : pc + 1 = q) (k : Ends p l e R s m args below meth c C S Q T (mkF m q Ls (.long (x &&& y) :: st))) : Ends p l e R s m args below meth c C S Q T (mkF m pc Ls (.long y :: .long x :: st)) := step (fun _ h => by subst hq; exact XS.land X.here hx rfl hd rfl h) k
theorem lor (X : Stand p l e R s m args below meth c T locs cells slots) (hx : p.tables.exec = Jvm.exec) {x y : Int64} (hd : decode c.code pc = .ok (.lor, 1)) (hq : pc + 1 = q) (k : Ends p l e R s m args below meth c C S Q T (mkF m q Ls (.long (x ||| y) :: st))) : Ends p l e R s m args below meth c C S Q T (mkF m pc Ls (.long y :: .long x :: st)) := step (fun _ h => by subst hq; exact XS.lor X.here hx rfl hd rfl h) k
theorem lxor (X : Stand p l e R s m args below meth c T locs cells slots) (hx : p.tables.exec = Jvm.exec) {x y : Int64} (hd : decode c.code pc = .ok (.lxor, 1)) (hq : pc + 1 = q) (k : Ends p l e R s m args below meth c C S Q T (mkF m q Ls (.long (x ^^^ y) :: st))) : Ends p l e R s m args below meth c C S Q T (mkF m pc Ls (.long y :: .long x :: st)) := step (fun _ h => by subst hq; exact XS.lxor X.here hx rfl hd rfl h) k
theorem lneg (X : Stand p l e R s m args below meth c T locs cells slots) (hx : p.tables.exec = Jvm.exec) {x : Int64} (hd : decode c.code pc = .ok (.lneg, 1)) (hq : pc + 1 = q) (k : Ends p l e R s m args below meth c C S Q T (mkF m q Ls (.long (-x) :: st))) : Ends p l e R s m args below meth c C S Q T (mkF m pc Ls (.long x :: st)) := step (fun _ h => by subst hq; exact XS.lneg X.here hx rfl hd rfl h) k
theorem ldiv (X : Stand p l e R s m args below meth c T locs cells slots) (hx : p.tables.exec = Jvm.exec) {x y : Int64} (hy : y ≠ 0) (hd : decode c.code pc = .ok (.ldiv, 1)) (hq : pc + 1 = q) (k : Ends p l e R s m args below meth c C S Q T (mkF m q Ls (.long (x / y) :: st))) : Ends p l e R s m args below meth c C S Q T (mkF m pc Ls (.long y :: .long x :: st)) := step (fun _ h => by subst hq; exact XS.ldiv X.here hx rfl hd rfl hy h) k
theorem irem (X : Stand p l e R s m args below meth c T locs cells slots) (hx : p.tables.exec = Jvm.exec) {x y : Int32} (hy : y ≠ 0) (hd : decode c.code pc = .ok (.irem, 1)) (hq : pc + 1 = q) (k : Ends p l e R s m args below meth c C S Q T (mkF m q Ls (.int (x % y) :: st))) : Ends p l e R s m args below meth c C S Q T (mkF m pc Ls (.int y :: .int x :: st)) := step (fun _ h => by subst hq; exact iremM X hx rfl hd rfl hy h) k
theorem lrem (X : Stand p l e R s m args below meth c T locs cells slots) (hx : p.tables.exec = Jvm.exec) {x y : Int64} (hy : y ≠ 0) (hd : decode c.code pc = .ok (.lrem, 1)) (hq : pc + 1 = q) (k : Ends p l e R s m args below meth c C S Q T (mkF m q Ls (.long (x % y) :: st))) : Ends p l e R s m args below meth c C S Q T (mkF m pc Ls (.long y :: .long x :: st)) := step (fun _ h => by subst hq; exact XS.lrem X.here hx rfl hd rfl hy (by rw [lrem_mod]; exact h)) k
theorem ishl (X : Stand p l e R s m args below meth c T locs cells slots) (hx : p.tables.exec = Jvm.exec) {x : Int32} {y : Int32} (hd : decode c.code pc = .ok (.ishl, 1)) (hq : pc + 1 = q) (k : Ends p l e R s m args below meth c C S Q T (mkF m q Ls (.int (x <<< (y &&& 31)) :: st))) : Ends p l e R s m args below meth c C S Q T (mkF m pc Ls (.int y :: .int x :: st)) := step (fun _ h => by subst hq; exact XS.ishl X.here hx rfl hd rfl h) k
theorem ishr (X : Stand p l e R s m args below meth c T locs cells slots) (hx : p.tables.exec = Jvm.exec) {x : Int32} {y : Int32} (hd : decode c.code pc = .ok (.ishr, 1)) (hq : pc + 1 = q) (k : Ends p l e R s m args below meth c C S Q T (mkF m q Ls (.int (x >>> (y &&& 31)) :: st))) : Ends p l e R s m args below meth c C S Q T (mkF m pc Ls (.int y :: .int x :: st)) := step (fun _ h => by subst hq; exact XS.ishr X.here hx rfl hd rfl h) k
theorem iushr (X : Stand p l e R s m args below meth c T locs cells slots) (hx : p.tables.exec = Jvm.exec) {x : Int32} {y : Int32} (hd : decode c.code pc = .ok (.iushr, 1)) (hq : pc + 1 = q) (k : Ends p l e R s m args below meth c C S Q T (mkF m q Ls (.int ((x.toUInt32 >>> (y &&& 31).toUInt32).toInt32) :: st))) : Ends p l e R s m args below meth c C S Q T (mkF m pc Ls (.int y :: .int x :: st)) := step (fun _ h => by subst hq; exact XS.iushr X.here hx rfl hd rfl h) k
theorem lshl (X : Stand p l e R s m args below meth c T locs cells slots) (hx : p.tables.exec = Jvm.exec) {x : Int64} {y : Int32} (hd : decode c.code pc = .ok (.lshl, 1)) (hq : pc + 1 = q) (k : Ends p l e R s m args below meth c C S Q T (mkF m q Ls (.long (x <<< (y &&& 0x3f).toInt64) :: st))) : Ends p l e R s m args below meth c C S Q T (mkF m pc Ls (.int y :: .long x :: st)) := step (fun _ h => by subst hq; exact XS.lshl X.here hx rfl hd rfl h) k
theorem lshr (X : Stand p l e R s m args below meth c T locs cells slots) (hx : p.tables.exec = Jvm.exec) {x : Int64} {y : Int32} (hd : decode c.code pc = .ok (.lshr, 1)) (hq : pc + 1 = q) (k : Ends p l e R s m args below meth c C S Q T (mkF m q Ls (.long (x >>> (y &&& 0x3f).toInt64) :: st))) : Ends p l e R s m args below meth c C S Q T (mkF m pc Ls (.int y :: .long x :: st)) := step (fun _ h => by subst hq; exact XS.lshr X.here hx rfl hd rfl h) k
theorem lushr (X : Stand p l e R s m args below meth c T locs cells slots) (hx : p.tables.exec = Jvm.exec) {x : Int64} {y : Int32} (hd : decode c.code pc = .ok (.lushr, 1)) (hq : pc + 1 = q) (k : Ends p l e R s m args below meth c C S Q T (mkF m q Ls (.long ((x.toUInt64 >>> (y &&& 0x3f).toInt64.toUInt64).toInt64) :: st))) : Ends p l e R s m args below meth c C S Q T (mkF m pc Ls (.int y :: .long x :: st)) := step (fun _ h => by subst hq; exact XS.lushr X.here hx rfl hd rfl h) k
theorem i2l (X : Stand p l e R s m args below meth c T locs cells slots) (hx : p.tables.exec = Jvm.exec) {x : Int32} (hd : decode c.code pc = .ok (.i2l, 1)) (hq : pc + 1 = q) (k : Ends p l e R s m args below meth c C S Q T (mkF m q Ls (.long (x.toInt64) :: st))) : Ends p l e R s m args below meth c C S Q T (mkF m pc Ls (.int x :: st)) := step (fun _ h => by subst hq; exact XS.i2l X.here hx rfl hd rfl h) k
theorem l2i (X : Stand p l e R s m args below meth c T locs cells slots) (hx : p.tables.exec = Jvm.exec) {x : Int64} (hd : decode c.code pc = .ok (.l2i, 1)) (hq : pc + 1 = q) (k : Ends p l e R s m args below meth c C S Q T (mkF m q Ls (.int (x.toInt32) :: st))) : Ends p l e R s m args below meth c C S Q T (mkF m pc Ls (.long x :: st)) := step (fun _ h => by subst hq; exact XS.l2i X.here hx rfl hd rfl h) k
theorem i2b (X : Stand p l e R s m args below meth c T locs cells slots) (hx : p.tables.exec = Jvm.exec) {x : Int32} (hd : decode c.code pc = .ok (.i2b, 1)) (hq : pc + 1 = q) (k : Ends p l e R s m args below meth c C S Q T (mkF m q Ls (.int (x.toInt8.toInt32) :: st))) : Ends p l e R s m args below meth c C S Q T (mkF m pc Ls (.int x :: st)) := step (fun _ h => by subst hq; exact XS.i2b X.here hx rfl hd rfl h) k
theorem i2s (X : Stand p l e R s m args below meth c T locs cells slots) (hx : p.tables.exec = Jvm.exec) {x : Int32} (hd : decode c.code pc = .ok (.i2s, 1)) (hq : pc + 1 = q) (k : Ends p l e R s m args below meth c C S Q T (mkF m q Ls (.int (x.toInt16.toInt32) :: st))) : Ends p l e R s m args below meth c C S Q T (mkF m pc Ls (.int x :: st)) := step (fun _ h => by subst hq; exact XS.i2s X.here hx rfl hd rfl h) k
theorem i2c (X : Stand p l e R s m args below meth c T locs cells slots) (hx : p.tables.exec = Jvm.exec) {x : Int32} (hd : decode c.code pc = .ok (.i2c, 1)) (hq : pc + 1 = q) (k : Ends p l e R s m args below meth c C S Q T (mkF m q Ls (.int (x.toUInt32.toUInt16.toUInt32.toInt32) :: st))) : Ends p l e R s m args below meth c C S Q T (mkF m pc Ls (.int x :: st)) := step (fun _ h => by subst hq; exact XS.i2c X.here hx rfl hd rfl h) k
theorem lcmp (X : Stand p l e R s m args below meth c T locs cells slots) (hx : p.tables.exec = Jvm.exec) {x y : Int64} (hd : decode c.code pc = .ok (.lcmp, 1)) (hq : pc + 1 = q) (k : Ends p l e R s m args below meth c C S Q T (mkF m q Ls (.int (lcmpW x y) :: st))) : Ends p l e R s m args below meth c C S Q T (mkF m pc Ls (.long y :: .long x :: st)) := step (fun _ h => by subst hq; exact XS.lcmp X.here hx rfl hd rfl h) k
theorem dup (X : Stand p l e R s m args below meth c T locs cells slots) (hx : p.tables.exec = Jvm.exec) {v : Value} (hc : v.category = 1) (hd : decode c.code pc = .ok (.dup, 1)) (hq : pc + 1 = q) (k : Ends p l e R s m args below meth c C S Q T (mkF m q Ls (v :: v :: st))) : Ends p l e R s m args below meth c C S Q T (mkF m pc Ls (v :: st)) := step (fun _ h => by subst hq; exact XS.dup X.here hx rfl hd rfl hc h) k
theorem pop (X : Stand p l e R s m args below meth c T locs cells slots) (hx : p.tables.exec = Jvm.exec) {v : Value} (hc : v.category = 1) (hd : decode c.code pc = .ok (.pop, 1)) (hq : pc + 1 = q) (k : Ends p l e R s m args below meth c C S Q T (mkF m q Ls (st))) : Ends p l e R s m args below meth c C S Q T (mkF m pc Ls (v :: st)) := step (fun _ h => by subst hq; exact XS.pop X.here hx rfl hd rfl hc h) k
theorem iinc (X : Stand p l e R s m args below meth c T locs cells slots) (hx : p.tables.exec = Jvm.exec) {k0 : Nat} {cst : Int} {x v : Int32} {l' : Array Slot} (hl : Ls[k0]? = some (.val (.int x))) (hv : x + Int32.ofInt cst = v) (hl' : storeLocals Ls k0 (.int v) = some l') (hd : decode c.code pc = .ok (.iinc k0 cst, 3)) (hq : pc + 3 = q) (k : Ends p l e R s m args below meth c C S Q T (mkF m q l' (st))) : Ends p l e R s m args below meth c C S Q T (mkF m pc Ls (st)) := step (fun _ h => by subst hq; exact XS.iinc X.here hx rfl hd hl (by rw [hv]; exact hl') h) k
theorem goto (X : Stand p l e R s m args below meth c T locs cells slots) (hx : p.tables.exec = Jvm.exec) {o : Int}  (hd : decode c.code pc = .ok (.goto o, 3)) (ho : 0 ≤ (pc : Int) + o) (hq : ((pc : Int) + o).toNat = q) (k : Ends p l e R s m args below meth c C S Q T (mkF m q Ls (st))) : Ends p l e R s m args below meth c C S Q T (mkF m pc Ls (st)) := step (fun _ h => XS.goto X.here hx rfl rfl hd ho hq h) k
theorem ifYes (X : Stand p l e R s m args below meth c T locs cells slots) (hx : p.tables.exec = Jvm.exec) {o : Int} {cd : ClassFile.Cond} {x : Int32} (hc : ifCond.holds cd x = true) (hd : decode c.code pc = .ok (.ifCond cd o, 3)) (ho : 0 ≤ (pc : Int) + o) (hq : ((pc : Int) + o).toNat = q) (k : Ends p l e R s m args below meth c C S Q T (mkF m q Ls (st))) : Ends p l e R s m args below meth c C S Q T (mkF m pc Ls (.int x :: st)) := step (fun _ h => XS.ifYes X.here hx rfl rfl hd rfl hc ho hq h) k
theorem icmpYes (X : Stand p l e R s m args below meth c T locs cells slots) (hx : p.tables.exec = Jvm.exec) {o : Int} {cd : ClassFile.Cond} {x y : Int32} (hc : if_icmp.holds cd x y = true) (hd : decode c.code pc = .ok (.if_icmp cd o, 3)) (ho : 0 ≤ (pc : Int) + o) (hq : ((pc : Int) + o).toNat = q) (k : Ends p l e R s m args below meth c C S Q T (mkF m q Ls (st))) : Ends p l e R s m args below meth c C S Q T (mkF m pc Ls (.int y :: .int x :: st)) := step (fun _ h => XS.icmpYes X.here hx rfl rfl hd rfl hc ho hq h) k
theorem ifnullYes (X : Stand p l e R s m args below meth c T locs cells slots) (hx : p.tables.exec = Jvm.exec) {o : Int}  (hd : decode c.code pc = .ok (.ifnull o, 3)) (ho : 0 ≤ (pc : Int) + o) (hq : ((pc : Int) + o).toNat = q) (k : Ends p l e R s m args below meth c C S Q T (mkF m q Ls (st))) : Ends p l e R s m args below meth c C S Q T (mkF m pc Ls (.null :: st)) := step (fun _ h => XS.ifnullYes X.here hx rfl rfl hd rfl ho hq h) k
theorem ifnonnullYes (X : Stand p l e R s m args below meth c T locs cells slots) (hx : p.tables.exec = Jvm.exec) {o : Int} {b : Addr} (hd : decode c.code pc = .ok (.ifnonnull o, 3)) (ho : 0 ≤ (pc : Int) + o) (hq : ((pc : Int) + o).toNat = q) (k : Ends p l e R s m args below meth c C S Q T (mkF m q Ls (st))) : Ends p l e R s m args below meth c C S Q T (mkF m pc Ls (.ref b :: st)) := step (fun _ h => XS.ifnonnullYes X.here hx rfl rfl hd rfl ho hq h) k
theorem ifNo (X : Stand p l e R s m args below meth c T locs cells slots) (hx : p.tables.exec = Jvm.exec) {o : Int} {cd : ClassFile.Cond} {x : Int32} (hc : ifCond.holds cd x = false) (hd : decode c.code pc = .ok (.ifCond cd o, 3)) (hq : pc + 3 = q) (k : Ends p l e R s m args below meth c C S Q T (mkF m q Ls (st))) : Ends p l e R s m args below meth c C S Q T (mkF m pc Ls (.int x :: st)) := step (fun _ h => by subst hq; exact XS.ifNo X.here hx rfl hd rfl hc h) k
theorem icmpNo (X : Stand p l e R s m args below meth c T locs cells slots) (hx : p.tables.exec = Jvm.exec) {o : Int} {cd : ClassFile.Cond} {x y : Int32} (hc : if_icmp.holds cd x y = false) (hd : decode c.code pc = .ok (.if_icmp cd o, 3)) (hq : pc + 3 = q) (k : Ends p l e R s m args below meth c C S Q T (mkF m q Ls (st))) : Ends p l e R s m args below meth c C S Q T (mkF m pc Ls (.int y :: .int x :: st)) := step (fun _ h => by subst hq; exact XS.icmpNo X.here hx rfl hd rfl hc h) k
theorem ifnullNo (X : Stand p l e R s m args below meth c T locs cells slots) (hx : p.tables.exec = Jvm.exec) {o : Int} {b : Addr} (hd : decode c.code pc = .ok (.ifnull o, 3)) (hq : pc + 3 = q) (k : Ends p l e R s m args below meth c C S Q T (mkF m q Ls (st))) : Ends p l e R s m args below meth c C S Q T (mkF m pc Ls (.ref b :: st)) := step (fun _ h => by subst hq; exact XS.ifnullNo X.here hx rfl hd rfl h) k
theorem ifnonnullNo (X : Stand p l e R s m args below meth c T locs cells slots) (hx : p.tables.exec = Jvm.exec) {o : Int} (hd : decode c.code pc = .ok (.ifnonnull o, 3)) (hq : pc + 3 = q) (k : Ends p l e R s m args below meth c C S Q T (mkF m q Ls (st))) : Ends p l e R s m args below meth c C S Q T (mkF m pc Ls (.null :: st)) := step (fun _ h => by subst hq; exact XS.ifnonnullNo X.here hx rfl hd rfl h) k
theorem acmp (X : Stand p l e R s m args below meth c T locs cells slots) (hx : p.tables.exec = Jvm.exec) {o : Int} {cd : ACond} {x y : Value} (h1 : x.isRef = true) (h2 : y.isRef = true) {same : Bool} (hs : decide (x = y) = same) (hd : decode c.code pc = .ok (.if_acmp cd o, 3)) (ho : 0 ≤ (pc : Int) + o) (hq : q = if acV cd same = true then ((pc : Int) + o).toNat else pc + 3) (k : Ends p l e R s m args below meth c C S Q T (mkF m q Ls st)) : Ends p l e R s m args below meth c C S Q T (mkF m pc Ls (y :: x :: st)) := step (fun _ h => Jvm.RoadKit.acmp X hx rfl h1 h2 rfl hd rfl hs ho hq h) k
theorem dloadN (X : Stand p l e R s m args below meth c T locs cells slots) (hx : p.tables.exec = Jvm.exec) {k0 : Fin 4} {v : UInt64} (hl : Ls[k0.val]? = some (.val (.double v))) (hd : decode c.code pc = .ok (.dload_n k0, 1)) (hq : pc + 1 = q) (k : Ends p l e R s m args below meth c C S Q T (mkF m q Ls (.double v :: st))) : Ends p l e R s m args below meth c C S Q T (mkF m pc Ls (st)) := step (fun _ h => by subst hq; exact XS.dloadN X.here hx rfl hd hl h) k
theorem dload (X : Stand p l e R s m args below meth c T locs cells slots) (hx : p.tables.exec = Jvm.exec) {k0 : Nat} {v : UInt64} (hl : Ls[k0]? = some (.val (.double v))) (hd : decode c.code pc = .ok (.dload k0, 2)) (hq : pc + 2 = q) (k : Ends p l e R s m args below meth c C S Q T (mkF m q Ls (.double v :: st))) : Ends p l e R s m args below meth c C S Q T (mkF m pc Ls (st)) := step (fun _ h => by subst hq; exact XS.dload X.here hx rfl hd hl h) k
theorem dstoreN (X : Stand p l e R s m args below meth c T locs cells slots) (hx : p.tables.exec = Jvm.exec) {k0 : Fin 4} {v : UInt64} {l' : Array Slot} (hl : storeLocals Ls k0.val (.double v) = some l') (hd : decode c.code pc = .ok (.dstore_n k0, 1)) (hq : pc + 1 = q) (k : Ends p l e R s m args below meth c C S Q T (mkF m q l' (st))) : Ends p l e R s m args below meth c C S Q T (mkF m pc Ls (.double v :: st)) := step (fun _ h => by subst hq; exact XS.dstoreN X.here hx rfl hd rfl hl h) k
theorem dstore (X : Stand p l e R s m args below meth c T locs cells slots) (hx : p.tables.exec = Jvm.exec) {k0 : Nat} {v : UInt64} {l' : Array Slot} (hl : storeLocals Ls k0 (.double v) = some l') (hd : decode c.code pc = .ok (.dstore k0, 2)) (hq : pc + 2 = q) (k : Ends p l e R s m args below meth c C S Q T (mkF m q l' (st))) : Ends p l e R s m args below meth c C S Q T (mkF m pc Ls (.double v :: st)) := step (fun _ h => by subst hq; exact XS.dstore X.here hx rfl hd rfl hl h) k
theorem i2d (X : Stand p l e R s m args below meth c T locs cells slots) (hx : p.tables.exec = Jvm.exec) {x : Int32} (hd : decode c.code pc = .ok (.i2d, 1)) (hq : pc + 1 = q) (k : Ends p l e R s m args below meth c C S Q T (mkF m q Ls (.double (FP.i2d x) :: st))) : Ends p l e R s m args below meth c C S Q T (mkF m pc Ls (.int x :: st)) := step (fun _ h => by subst hq; exact XS.i2dS X.here hx rfl hd rfl rfl h) k
theorem b53_i (x : Int32) : B53 x.toInt64 := by
  have h := rng32 x
  refine b53 ?_ ?_
  · rw [Int64.lt_iff_toInt_lt, c_i2l, show (-9007199254740992 : Int64).toInt = -9007199254740992 from by decide +kernel]; omega
  · rw [Int64.lt_iff_toInt_lt, c_i2l, show (9007199254740992 : Int64).toInt = 9007199254740992 from by decide +kernel]; omega
theorem dcmp_i (x y : Int32) (o : CmpOp) : cmpValue (FP.dcmp (FP.i2d x) (FP.i2d y)) o = lcmpW x.toInt64 y.toInt64 := by
  rw [i2d_w, i2d_w]; exact dcmpV_w (b53_i x) (b53_i y) o
theorem dcmpI (X : Stand p l e R s m args below meth c T locs cells slots) (hx : p.tables.exec = Jvm.exec) {o : CmpOp} {x y : Int32} (hd : decode c.code pc = .ok (.dcmp o, 1)) (hq : pc + 1 = q) (k : Ends p l e R s m args below meth c C S Q T (mkF m q Ls (.int (lcmpW x.toInt64 y.toInt64) :: st))) : Ends p l e R s m args below meth c C S Q T (mkF m pc Ls (.double (FP.i2d y) :: .double (FP.i2d x) :: st)) := step (fun _ h => by subst hq; exact XS.dcmpS X.here hx rfl hd rfl (dcmp_i x y o) h) k
theorem ldc2Long (X : Stand p l e R s m args below meth c T locs cells slots) (hx : p.tables.exec = Jvm.exec) {Z : State} {a0 : Array Value} (hZ : Z.Warmed39 s.vm) {own : String} (hown : s.vm.findClass own = some m.cls) {index : Nat} {v : Int64} (w : (Jvm.Cond.constantLong own index v).before a0 Z = true) (hd : decode c.code pc = .ok (.ldc2_w index, 3)) (hq : pc + 3 = q) (k : Ends p l e R s m args below meth c C S Q T (mkF m q Ls (.long v :: st))) : Ends p l e R s m args below meth c C S Q T (mkF m pc Ls st) := step (fun t h => by subst hq; exact X.ldc2Long hx hown (mvT hZ w) (g := mkF m pc Ls st) rfl hd t h) k
theorem ldcInt (X : Stand p l e R s m args below meth c T locs cells slots) (hx : p.tables.exec = Jvm.exec) {Z : State} {a0 : Array Value} (hZ : Z.Warmed39 s.vm) {own : String} (hown : s.vm.findClass own = some m.cls) {index : Nat} {v : Int32} (w : (Jvm.Cond.constant own index v).before a0 Z = true) (hd : decode c.code pc = .ok (.ldc index, 2)) (hq : pc + 2 = q) (k : Ends p l e R s m args below meth c C S Q T (mkF m q Ls (.int v :: st))) : Ends p l e R s m args below meth c C S Q T (mkF m pc Ls st) := step (fun t h => by subst hq; exact X.ldcInt hx hown (mvT hZ w) (g := mkF m pc Ls st) rfl hd t h) k
theorem retZ (X : Stand p l e R s m args below meth c T locs cells slots) (hx : p.tables.exec = Jvm.exec) {z : Int32} {t : FieldType} (hret : meth.sig.returnType = some t) (ht : t = .boolean ∨ t = .byte ∨ t = .char ∨ t = .short) (hd : decode c.code pc = .ok (.ireturn, 1)) (hQ : Q (some (.int (nar t z))) T.heap locs) (hc : cells ≤ C) (hs : slots ≤ S) : Ends p l e R s m args below meth c C S Q T (mkF m pc Ls (.int z :: st)) :=
  ⟨T, locs, cells, slots, _, X, hQ, hc, hs, (fun h => by rw [hret] at h; cases h), fun fs hl => retN X hx hret ht hd hl⟩
theorem retG (X : Stand p l e R s m args below meth c T locs cells slots) (hx : p.tables.exec = Jvm.exec) {w : Value} {t : FieldType} {i : Instr} (hret : meth.sig.returnType = some t) (hn : narrow t w = w)
    (hi : (i = .ireturn ∧ (t = .int ∨ t = .boolean ∨ t = .byte ∨ t = .char ∨ t = .short) ∧ ∃ z, w = .int z) ∨ (i = .lreturn ∧ t = .long ∧ ∃ z, w = .long z) ∨ (i = .dreturn ∧ t = .double ∧ ∃ z, w = .double z) ∨ (i = .freturn ∧ t = .float ∧ ∃ z, w = .float z) ∨ (i = .areturn ∧ t.isReference = true ∧ w.isRef = true)) (hd : decode c.code pc = .ok (i, 1)) (hQ : Q (some w) T.heap locs) (hc : cells ≤ C) (hs : slots ≤ S) : Ends p l e R s m args below meth c C S Q T (mkF m pc Ls (w :: st)) :=
  ⟨T, locs, cells, slots, _, X, hQ, hc, hs, (fun h => by rw [hret] at h; cases h), fun fs hl => retOut X hx hret hn hi hd hl⟩
theorem retI (X : Stand p l e R s m args below meth c T locs cells slots) (hx : p.tables.exec = Jvm.exec) {z : Int32} (hret : meth.sig.returnType = some .int) (hd : decode c.code pc = .ok (.ireturn, 1)) (hQ : Q (some (.int z)) T.heap locs) (hc : cells ≤ C) (hs : slots ≤ S) : Ends p l e R s m args below meth c C S Q T (mkF m pc Ls (.int z :: st)) := retG X hx hret rfl (Or.inl ⟨rfl, Or.inl rfl, z, rfl⟩) hd hQ hc hs
theorem retL (X : Stand p l e R s m args below meth c T locs cells slots) (hx : p.tables.exec = Jvm.exec) {z : Int64} (hret : meth.sig.returnType = some .long) (hd : decode c.code pc = .ok (.lreturn, 1)) (hQ : Q (some (.long z)) T.heap locs) (hc : cells ≤ C) (hs : slots ≤ S) : Ends p l e R s m args below meth c C S Q T (mkF m pc Ls (.long z :: st)) := retG X hx hret rfl (Or.inr (Or.inl ⟨rfl, rfl, z, rfl⟩)) hd hQ hc hs
theorem retA (X : Stand p l e R s m args below meth c T locs cells slots) (hx : p.tables.exec = Jvm.exec) {v : Value} {t : FieldType} (hret : meth.sig.returnType = some t) (ht : t.isReference = true) (hv : v.isRef = true) (hn : narrow t v = v) (hd : decode c.code pc = .ok (.areturn, 1)) (hQ : Q (some v) T.heap locs) (hc : cells ≤ C) (hs : slots ≤ S) : Ends p l e R s m args below meth c C S Q T (mkF m pc Ls (v :: st)) := retG X hx hret hn (Or.inr (Or.inr (Or.inr (Or.inr ⟨rfl, ht, hv⟩)))) hd hQ hc hs
theorem retV (X : Stand p l e R s m args below meth c T locs cells slots) (hx : p.tables.exec = Jvm.exec) (hret : meth.sig.returnType = none) (hd : decode c.code pc = .ok (.return_, 1)) (hQ : Q none T.heap locs) (hc : cells ≤ C) (hs : slots ≤ S) : Ends p l e R s m args below meth c C S Q T (mkF m pc Ls []) :=
  ⟨T, locs, cells, slots, none, X, hQ, hc, hs, (fun _ => rfl), fun fs hl => X.returnOut hx hret hd hl⟩
theorem callS (X : Stand p l e R s m args below meth c T locs cells slots) (hx : p.tables.exec = Jvm.exec) {Z : State} {a0 : Array Value} (hZ : Z.Warmed39 s.vm) {own : String} (hown : s.vm.findClass own = some m.cls) {index : Nat} {h : Heap} (eT : T.heap = h) {y : MethodName} {bytes : ByteArray} {maxL : Nat} {ret : Option FieldType} {rm : Room} {Qc : Option Value → Heap → List Loc → Prop} (w1 : (Jvm.Cond.methodLink own index y).before a0 Z = true) (w2 : (Jvm.Cond.static y).before a0 Z = true) (w3 : (Jvm.Cond.initialized y.cls).before a0 Z = true) (w4 : (Jvm.Cond.code y bytes maxL ret).before a0 Z = true) (hy : y.cls ≠ "java/lang/invoke/MethodHandle" ∧ y.cls ≠ "java/lang/invoke/VarHandle")
    {argsL : List Value} (hM : Pays l Z y bytes maxL ret [] rm argsL.toArray h Qc) (hsize : Ls.size = c.maxLocals) {ps : List FieldType} {rt : Option FieldType} (hsig : parseMethodDescriptor y.desc = some ⟨ps, rt⟩) (hlen : argsL.length = ps.length) {W : Nat} (hW : (rest.map fun v => v.category).sum ≤ W) (hf : rm.frames + 1 ≤ R.frames) (hl : W + (maxL + 11) + rm.locals ≤ R.locals) (hcc : cells + rm.cells ≤ R.cells) (hss : slots + rm.slots ≤ R.slots) (hst : st = argsL.reverse ++ rest) (hd : decode c.code pc = .ok (.invokestatic index, 3)) (hq : pc + 3 = q) (k : ∀ (T' : State) (v : Option Value) (L : List Loc), Stand p l e R s m args below meth c T' (locs ++ L) (cells + rm.cells) (slots + rm.slots) → Qc v T'.heap L → Ends p l e R s m args below meth c C S Q T' (mkF m q Ls (v.toList ++ rest))) : Ends p l e R s m args below meth c C S Q T (mkF m pc Ls st) := by
  obtain ⟨v, _, ⟨T', L', k', n'⟩, -, X', ⟨L, hQ, l1, y1, z1⟩, stp⟩ := Jvm.LawKit.callS X hx (y := y) hown (mvT hZ w1) (mvT hZ w2) (mvT hZ w3) (mvT hZ w4) hy (backOf (W := W) hM hZ w4 w3 hf hl) (g := mkF m pc Ls st) rfl hsize (argsL := argsL) (rest := rest) (lenOf hsig hlen) hst (by show 2 * 0 + _ ≤ _; omega) hd (fun _ _ => ⟨rfl, eT, hcc, hss⟩)
  dsimp only [Pt.U, Pt.locs, Pt.cells, Pt.slots] at X' l1 y1 z1 stp hQ
  subst l1 y1 z1 hq
  exact step stp (k T' v L X' hQ)
theorem callI (X : Stand p l e R s m args below meth c T locs cells slots) (hx : p.tables.exec = Jvm.exec) {Z : State} {a0 : Array Value} (hZ : Z.Warmed39 s.vm) {own : String} (hown : s.vm.findClass own = some m.cls) {index : Nat} {h : Heap} (eT : T.heap = h) {y : MethodName} {bytes : ByteArray} {maxL : Nat} {rm : Room} {Qc : Option Value → Heap → List Loc → Prop} (hy1 : y.name = "<init>") (w1 : (Jvm.Cond.methodLink own index y).before a0 Z = true) (w2 : (Jvm.Cond.instanceMethod y).before a0 Z = true) (w3 : (Jvm.Cond.initialized y.cls).before a0 Z = true) (w4 : (Jvm.Cond.code y bytes maxL none).before a0 Z = true) (hy : y.cls ≠ "java/lang/invoke/MethodHandle" ∧ y.cls ≠ "java/lang/invoke/VarHandle")
    {a : Addr} {argsL : List Value} (hM : Pays l Z y bytes maxL none [] rm (Value.ref a :: argsL).toArray h Qc) (hsize : Ls.size = c.maxLocals) {ps : List FieldType} {rt : Option FieldType} (hsig : parseMethodDescriptor y.desc = some ⟨ps, rt⟩) (hlen : argsL.length = ps.length) {W : Nat} (hW : (rest.map fun v => v.category).sum ≤ W) (hf : rm.frames + 1 ≤ R.frames) (hl : W + (maxL + 11) + rm.locals ≤ R.locals) (hcc : cells + rm.cells ≤ R.cells) (hss : slots + rm.slots ≤ R.slots) (hst : st = argsL.reverse ++ .ref a :: rest) (hd : decode c.code pc = .ok (.invokespecial index, 3)) (hq : pc + 3 = q) (k : ∀ (T' : State) (v : Option Value) (L : List Loc), Stand p l e R s m args below meth c T' (locs ++ L) (cells + rm.cells) (slots + rm.slots) → Qc v T'.heap L → Ends p l e R s m args below meth c C S Q T' (mkF m q Ls (v.toList ++ rest))) : Ends p l e R s m args below meth c C S Q T (mkF m pc Ls st) := by
  obtain ⟨v, _, ⟨T', L', k', n'⟩, -, X', ⟨L, hQ, l1, y1, z1⟩, stp⟩ := X.specialBack hx (y := y) hy1 hown (mvT hZ w1) (mvT hZ w2) (mvT hZ w4) hy (backOf (W := W) hM hZ w4 w3 hf hl) (g := mkF m pc Ls st) rfl hsize (Steps.refl _) (a := a) (argsL := argsL) (rest := rest) (lenOf hsig hlen) hst (by show 2 * 0 + _ ≤ _; omega) hd (fun _ _ => ⟨rfl, eT, hcc, hss⟩)
  dsimp only [Pt.U, Pt.locs, Pt.cells, Pt.slots] at X' l1 y1 z1 stp hQ
  subst l1 y1 z1 hq
  exact step (fun _ h => stp.trans h) (k T' v L X' hQ)
theorem callV (X : Stand p l e R s m args below meth c T locs cells slots) (hx : p.tables.exec = Jvm.exec) {Z : State} {a0 : Array Value} (hZ : Z.Warmed39 s.vm) {own : String} (hown : s.vm.findClass own = some m.cls) {index : Nat} {h : Heap} (eT : T.heap = h) {y z : MethodName} {K : String} {bytes : ByteArray} {maxL : Nat} {ret : Option FieldType} {rm : Room} {Qc : Option Value → Heap → List Loc → Prop} (w1 : (Jvm.Cond.methodLink own index y).before a0 Z = true) (w2 : (Jvm.Cond.declares y).before a0 Z = true) (hnf : NotFace s y) (w5 : (Jvm.Cond.selects K y z).before a0 Z = true) (w6 : (Jvm.Cond.instanceMethod z).before a0 Z = true) (w3 : (Jvm.Cond.initialized z.cls).before a0 Z = true) (w4 : (Jvm.Cond.code z bytes maxL ret).before a0 Z = true) (hy : y.cls ≠ "java/lang/invoke/MethodHandle" ∧ y.cls ≠ "java/lang/invoke/VarHandle")
    {a : Addr} (E : Exa Z h a K) {argsL : List Value} (hM : Pays l Z z bytes maxL ret [] rm (Value.ref a :: argsL).toArray h Qc) (hsize : Ls.size = c.maxLocals) {ps : List FieldType} {rt : Option FieldType} (hsig : parseMethodDescriptor y.desc = some ⟨ps, rt⟩) (hlen : argsL.length = ps.length) {W : Nat} (hW : (rest.map fun v => v.category).sum ≤ W) (hf : rm.frames + 1 ≤ R.frames) (hl : W + (maxL + 11) + rm.locals ≤ R.locals) (hcc : cells + rm.cells ≤ R.cells) (hss : slots + rm.slots ≤ R.slots) (hst : st = argsL.reverse ++ .ref a :: rest) (hd : decode c.code pc = .ok (.invokevirtual index, 3)) (hq : pc + 3 = q) (k : ∀ (T' : State) (v : Option Value) (L : List Loc), Stand p l e R s m args below meth c T' (locs ++ L) (cells + rm.cells) (slots + rm.slots) → Qc v T'.heap L → Ends p l e R s m args below meth c C S Q T' (mkF m q Ls (v.toList ++ rest))) : Ends p l e R s m args below meth c C S Q T (mkF m pc Ls st) := by
  obtain ⟨cq, kq, qa, qb, qc⟩ := isOf hZ eT E
  obtain ⟨v, _, ⟨T', L', k', n'⟩, -, X', ⟨L, hQ, l1, y1, z1⟩, stp⟩ := X.virtualBack hx (y := y) (z := z) hown (mvT hZ w1) (mvT hZ w2) hnf (mvT hZ w5) (mvT hZ w6) hy (backOf (W := W) hM hZ w4 w3 hf hl) qa qc (g := mkF m pc Ls st) rfl hsize (Steps.refl _) (argsL := argsL) (rest := rest) (lenOf hsig hlen) hst (by show 2 * 0 + _ ≤ _; omega) hd (fun _ _ => ⟨rfl, eT, hcc, hss⟩)
  dsimp only [Pt.U, Pt.locs, Pt.cells, Pt.slots] at X' l1 y1 z1 stp hQ
  subst l1 y1 z1 hq
  exact step (fun _ h => stp.trans h) (k T' v L X' hQ)
theorem pureK {T' : State} {v V : Option Value} {h : Heap} {L : List Loc} (X' : Stand p l e R s m args below meth c T' (locs ++ L) (cells + 0) (slots + 0)) (hQ : RetQ V h v T'.heap L) : Stand p l e R s m args below meth c T' locs cells slots ∧ T'.heap = h ∧ v = V := by
  obtain ⟨h1, h2, rfl⟩ := hQ
  rw [List.append_nil] at X'
  exact ⟨X', h2, h1⟩
theorem c_t {cd : ClassFile.Cond} {x : Int32} {b : Bool} (h : if_icmp.holds cd x 0 = b) : ifCond.holds cd x = b := (if0 cd x).trans h
theorem Ext_trans {h0 h h' : Heap} (E : Ext h0 h) (E' : Ext h h') : Ext h0 h' := ⟨Nat.le_trans E.1 E'.1, fun a c q => E'.2 a c (E.2 a c q)⟩
theorem Ext_wr {h0 h h' : Heap} {a : Addr} {sl : Nat} {v : Value} (E : Ext h0 h) (W : Wr h h' a sl v) (q : h0.size ≤ a) : Ext h0 h' :=
  ⟨Nat.le_trans E.1 (Keep.of_wr W).1, fun b c r => (Keep.of_wr W).2.1 b c (E.2 b c r) (ninS (Nat.ne_of_lt (Nat.lt_of_lt_of_le (Array.getElem?_eq_some_iff.mp r).1 q)) nin0)⟩
theorem Ext_keep {h0 h h' : Heap} {ws : List Addr} (E : Ext h0 h) (K : Keep h h' ws) (q : ∀ x ∈ ws, h0.size ≤ x) : Ext h0 h' :=
  ⟨Nat.le_trans E.1 K.1, fun b c r => K.2.1 b c (E.2 b c r) fun z => absurd (Array.getElem?_eq_some_iff.mp r).1 (Nat.not_lt.mpr (q b z))⟩
theorem rr_t {a b : Addr} (h : a = b) : decide ((Value.ref a : Value) = .ref b) = true := decide_eq_true (congrArg Value.ref h)
theorem rr_f {a b : Addr} (h : ¬ a = b) : decide ((Value.ref a : Value) = .ref b) = false := decide_eq_false fun q => h (Value.ref.inj q)
theorem l_t {x y : Int64} (h : x < y) : lcmpW x y < 0 := (lw_lt x y).mpr h
theorem l_f {x y : Int64} (h : ¬ x < y) : ¬ lcmpW x y < 0 := fun q => h ((lw_lt x y).mp q)
theorem g_t {x y : Int64} (h : y < x) : 0 < lcmpW x y := (lw_gt x y).mpr h
theorem g_f {x y : Int64} (h : ¬ y < x) : ¬ 0 < lcmpW x y := fun q => h ((lw_gt x y).mp q)
theorem e_t {x y : Int64} (h : x = y) : lcmpW x y = 0 := (lw_eq x y).mpr h
theorem e_f {x y : Int64} (h : ¬ x = y) : ¬ lcmpW x y = 0 := fun q => h ((lw_eq x y).mp q)
end
end Jvm.EKit
namespace Jvm.Pilot.@@N@@
open Jvm Jvm.ClassFile Sem Op Lib Jvm.Free Jvm.Stand Jvm.LawKit Jvm.RoadKit Bundle Jvm.Pilot.@@N@@.Jvm.D Jvm.EKit
def own_min (x y : Int64) : Int64 := if y < x then y else x
def own_max (x y : Int64) : Int64 := if x < y then y else x
theorem ef_rm1 (m : MethodId) (q0 : Int64) (q1 : Int64) : entryFrame m #[(.long q0), (.long q1)] 4 = mkF m 0 #[.val (.long q0), .second, .val (.long q1), .second] [] := by first | (simp [entryFrame, mkF, argsToLocals, Value.category]; done) | rfl
theorem d1_0 : decode jdk_29_method_70_code 0 = .ok (.lload_n 0, 1) := by decide +kernel
theorem d1_1 : decode jdk_29_method_70_code 1 = .ok (.lload_n 2, 1) := by decide +kernel
theorem d1_2 : decode jdk_29_method_70_code 2 = .ok (.lcmp, 1) := by decide +kernel
theorem d1_3 : decode jdk_29_method_70_code 3 = .ok (.ifCond .gt 7, 3) := by decide +kernel
theorem d1_10 : decode jdk_29_method_70_code 10 = .ok (.lload_n 2, 1) := by decide +kernel
theorem d1_11 : decode jdk_29_method_70_code 11 = .ok (.lreturn, 1) := by decide +kernel
theorem d1_6 : decode jdk_29_method_70_code 6 = .ok (.lload_n 0, 1) := by decide +kernel
theorem d1_7 : decode jdk_29_method_70_code 7 = .ok (.goto 4, 3) := by decide +kernel
set_option maxRecDepth 65536 in
set_option maxHeartbeats 40000000 in
theorem rm1 (l : Launch) (Z : State) (a0 : Array Value) (hw : ∀ d ∈ tables_1, d.before a0 Z = true) (ws : List Jvm.Cond) (q0 : Int64) (q1 : Int64) (h0 : Heap)  :
    Pays l Z (⟨"java/lang/Math", "min", "(JJ)J"⟩ : MethodName) jdk_29_method_70_code 4 (some .long) ws ({ frames := 0, cells := 0, slots := 0, locals := 0 } : Room) #[(.long q0), (.long q1)] h0 (RetQ (some (.long (own_min q0 q1))) h0) := by
  refine EKit.pays (Jvm.Free.JP.mathPlain rfl (by decide +kernel)) (fun m => ef_rm1 m q0 q1) ?_
  intro p e s m below meth c s₁ hx hby hml hZ hown hnm hret X0 e0 hs0
  refine EKit.lloadN X0 hx rfl (hb hby d1_0) (q := 1) rfl ?_
  refine EKit.lloadN X0 hx rfl (hb hby d1_1) (q := 2) rfl ?_
  refine EKit.lcmp X0 hx  (hb hby d1_2) (q := 3) rfl ?_
  by_cases h3 : q1 < q0
  · skip
    refine EKit.ifYes X0 hx (EKit.c_t (tlt (EKit.g_t h3)).2.2.1) (hb hby d1_3) (by decide) (q := 10) (by decide) ?_
    refine EKit.lloadN X0 hx rfl (hb hby d1_10) (q := 11) rfl ?_
    exact EKit.retL X0 hx hret (hb hby d1_11) (⟨by simp [own_min, h3], e0, rfl⟩) (by decide) (by decide)
  · skip
    refine EKit.ifNo X0 hx (EKit.c_t (flt (EKit.g_f h3)).2.2.1) (hb hby d1_3) (q := 6) rfl ?_
    refine EKit.lloadN X0 hx rfl (hb hby d1_6) (q := 7) rfl ?_
    refine EKit.goto X0 hx (hb hby d1_7) (by decide) (q := 11) (by decide) ?_
    exact EKit.retL X0 hx hret (hb hby d1_11) (⟨by simp [own_min, h3], e0, rfl⟩) (by decide) (by decide)
theorem ef_rm2 (m : MethodId) (q0 : Int64) (q1 : Int64) : entryFrame m #[(.long q0), (.long q1)] 4 = mkF m 0 #[.val (.long q0), .second, .val (.long q1), .second] [] := by first | (simp [entryFrame, mkF, argsToLocals, Value.category]; done) | rfl
theorem d2_0 : decode jdk_29_method_66_code 0 = .ok (.lload_n 0, 1) := by decide +kernel
theorem d2_1 : decode jdk_29_method_66_code 1 = .ok (.lload_n 2, 1) := by decide +kernel
theorem d2_2 : decode jdk_29_method_66_code 2 = .ok (.lcmp, 1) := by decide +kernel
theorem d2_3 : decode jdk_29_method_66_code 3 = .ok (.ifCond .lt 7, 3) := by decide +kernel
theorem d2_10 : decode jdk_29_method_66_code 10 = .ok (.lload_n 2, 1) := by decide +kernel
theorem d2_11 : decode jdk_29_method_66_code 11 = .ok (.lreturn, 1) := by decide +kernel
theorem d2_6 : decode jdk_29_method_66_code 6 = .ok (.lload_n 0, 1) := by decide +kernel
theorem d2_7 : decode jdk_29_method_66_code 7 = .ok (.goto 4, 3) := by decide +kernel
set_option maxRecDepth 65536 in
set_option maxHeartbeats 40000000 in
theorem rm2 (l : Launch) (Z : State) (a0 : Array Value) (hw : ∀ d ∈ tables_1, d.before a0 Z = true) (ws : List Jvm.Cond) (q0 : Int64) (q1 : Int64) (h0 : Heap)  :
    Pays l Z (⟨"java/lang/Math", "max", "(JJ)J"⟩ : MethodName) jdk_29_method_66_code 4 (some .long) ws ({ frames := 0, cells := 0, slots := 0, locals := 0 } : Room) #[(.long q0), (.long q1)] h0 (RetQ (some (.long (own_max q0 q1))) h0) := by
  refine EKit.pays (Jvm.Free.JP.mathPlain rfl (by decide +kernel)) (fun m => ef_rm2 m q0 q1) ?_
  intro p e s m below meth c s₁ hx hby hml hZ hown hnm hret X0 e0 hs0
  refine EKit.lloadN X0 hx rfl (hb hby d2_0) (q := 1) rfl ?_
  refine EKit.lloadN X0 hx rfl (hb hby d2_1) (q := 2) rfl ?_
  refine EKit.lcmp X0 hx  (hb hby d2_2) (q := 3) rfl ?_
  by_cases h3 : q0 < q1
  · skip
    refine EKit.ifYes X0 hx (EKit.c_t (tlt (EKit.l_t h3)).1) (hb hby d2_3) (by decide) (q := 10) (by decide) ?_
    refine EKit.lloadN X0 hx rfl (hb hby d2_10) (q := 11) rfl ?_
    exact EKit.retL X0 hx hret (hb hby d2_11) (⟨by simp [own_max, h3], e0, rfl⟩) (by decide) (by decide)
  · skip
    refine EKit.ifNo X0 hx (EKit.c_t (flt (EKit.l_f h3)).1) (hb hby d2_3) (q := 6) rfl ?_
    refine EKit.lloadN X0 hx rfl (hb hby d2_6) (q := 7) rfl ?_
    refine EKit.goto X0 hx (hb hby d2_7) (by decide) (q := 11) (by decide) ?_
    exact EKit.retL X0 hx hret (hb hby d2_11) (⟨by simp [own_max, h3], e0, rfl⟩) (by decide) (by decide)
def own_uam (x y : Int64) : Int32 := if (y ^^^ (-9223372036854775808 : Int64)) < (x ^^^ (-9223372036854775808 : Int64)) then 0 else 1
theorem ef_rm3 (m : MethodId) (q0 : Int64) (q1 : Int64) : entryFrame m #[(.long q0), (.long q1)] 4 = mkF m 0 #[.val (.long q0), .second, .val (.long q1), .second] [] := by first | (simp [entryFrame, mkF, argsToLocals, Value.category]; done) | rfl
theorem pn_com_example_ratify_ratify_format_WholeNumbersHoldsPinLaw : plainName "com/example/ratify/ratify/format/WholeNumbersHoldsPinLaw" = true := by first | (simp [plainName, overriddenIn]; done) | decide +kernel
theorem d3_0 : decode method_2_code 0 = .ok (.lload_n 0, 1) := by decide +kernel
theorem d3_1 : decode method_2_code 1 = .ok (.ldc2_w 7, 3) := by decide +kernel
theorem d3_4 : decode method_2_code 4 = .ok (.lxor, 1) := by decide +kernel
theorem d3_5 : decode method_2_code 5 = .ok (.lload_n 2, 1) := by decide +kernel
theorem d3_6 : decode method_2_code 6 = .ok (.ldc2_w 7, 3) := by decide +kernel
theorem d3_9 : decode method_2_code 9 = .ok (.lxor, 1) := by decide +kernel
theorem d3_10 : decode method_2_code 10 = .ok (.lcmp, 1) := by decide +kernel
theorem d3_11 : decode method_2_code 11 = .ok (.ifCond .gt 7, 3) := by decide +kernel
theorem d3_18 : decode method_2_code 18 = .ok (.iconst 0, 1) := by decide +kernel
theorem d3_19 : decode method_2_code 19 = .ok (.ireturn, 1) := by decide +kernel
theorem d3_14 : decode method_2_code 14 = .ok (.iconst 1, 1) := by decide +kernel
theorem d3_15 : decode method_2_code 15 = .ok (.goto 4, 3) := by decide +kernel
set_option maxRecDepth 65536 in
set_option maxHeartbeats 40000000 in
theorem rm3 (l : Launch) (Z : State) (a0 : Array Value) (hw : ∀ d ∈ tables_1, d.before a0 Z = true) (ws : List Jvm.Cond) (q0 : Int64) (q1 : Int64) (h0 : Heap)  :
    Pays l Z (⟨"com/example/ratify/ratify/format/WholeNumbersHoldsPinLaw", "unsignedAtMost", "(JJ)Z"⟩ : MethodName) method_2_code 4 (some .boolean) ws ({ frames := 0, cells := 0, slots := 0, locals := 0 } : Room) #[(.long q0), (.long q1)] h0 (RetQ (some (.int (own_uam q0 q1))) h0) := by
  refine EKit.pays (plainFor_of_name pn_com_example_ratify_ratify_format_WholeNumbersHoldsPinLaw) (fun m => ef_rm3 m q0 q1) ?_
  intro p e s m below meth c s₁ hx hby hml hZ hown hnm hret X0 e0 hs0
  refine EKit.lloadN X0 hx rfl (hb hby d3_0) (q := 1) rfl ?_
  refine EKit.ldc2Long X0 hx hZ hown (hw _ (List.mem_of_getElem? (i := 12) rfl)) (hb hby d3_1) (q := 4) rfl ?_
  refine EKit.lxor X0 hx  (hb hby d3_4) (q := 5) rfl ?_
  refine EKit.lloadN X0 hx rfl (hb hby d3_5) (q := 6) rfl ?_
  refine EKit.ldc2Long X0 hx hZ hown (hw _ (List.mem_of_getElem? (i := 12) rfl)) (hb hby d3_6) (q := 9) rfl ?_
  refine EKit.lxor X0 hx  (hb hby d3_9) (q := 10) rfl ?_
  refine EKit.lcmp X0 hx  (hb hby d3_10) (q := 11) rfl ?_
  by_cases h11 : (q1 ^^^ (-9223372036854775808 : Int64)) < (q0 ^^^ (-9223372036854775808 : Int64))
  · skip
    refine EKit.ifYes X0 hx (EKit.c_t (tlt (EKit.g_t h11)).2.2.1) (hb hby d3_11) (by decide) (q := 18) (by decide) ?_
    refine EKit.iconst X0 hx (v := (0 : Int32)) rfl (hb hby d3_18) (q := 19) rfl ?_
    exact EKit.retZ X0 hx hret (by simp) (hb hby d3_19) (⟨congrArg (fun z => some (Value.int z)) (show nar .boolean (0 : Int32) = own_uam q0 q1 from by simp [own_uam, h11] <;> decide), e0, rfl⟩) (by decide) (by decide)
  · skip
    refine EKit.ifNo X0 hx (EKit.c_t (flt (EKit.g_f h11)).2.2.1) (hb hby d3_11) (q := 14) rfl ?_
    refine EKit.iconst X0 hx (v := (1 : Int32)) rfl (hb hby d3_14) (q := 15) rfl ?_
    refine EKit.goto X0 hx (hb hby d3_15) (by decide) (q := 19) (by decide) ?_
    exact EKit.retZ X0 hx hret (by simp) (hb hby d3_19) (⟨congrArg (fun z => some (Value.int z)) (show nar .boolean (1 : Int32) = own_uam q0 q1 from by simp [own_uam, h11] <;> decide), e0, rfl⟩) (by decide) (by decide)
theorem own_min_i (x y : Int64) : (own_min x y).toInt = min x.toInt y.toInt := by
  unfold own_min; split <;> rename_i h <;> rw [Int64.lt_iff_toInt_lt] at h <;> omega
theorem own_max_i (x y : Int64) : (own_max x y).toInt = max x.toInt y.toInt := by
  unfold own_max; split <;> rename_i h <;> rw [Int64.lt_iff_toInt_lt] at h <;> omega
theorem own_mm (x y : Int64) : ¬ own_max x y < own_min x y := by
  rw [Int64.lt_iff_toInt_lt, own_min_i, own_max_i]; omega
theorem ef_rm4 (m : MethodId) (r0 : Addr) (q1 : Int64) (q2 : Int64) : entryFrame m #[(.ref r0), (.long q1), (.long q2)] 5 = mkF m 0 #[.val (.ref r0), .val (.long q1), .second, .val (.long q2), .second] [] := by first | (simp [entryFrame, mkF, argsToLocals, Value.category]; done) | rfl
theorem pn_com_example_ratify_ratify_format_WholeNumbers : plainName "com/example/ratify/ratify/format/WholeNumbers" = true := by first | (simp [plainName, overriddenIn]; done) | decide +kernel
theorem d4_0 : decode prog_53_method_1_code 0 = .ok (.aload_n 0, 1) := by decide +kernel
theorem d4_1 : decode prog_53_method_1_code 1 = .ok (.invokespecial 1, 3) := by decide +kernel
theorem d4_4 : decode prog_53_method_1_code 4 = .ok (.lload_n 1, 1) := by decide +kernel
theorem d4_5 : decode prog_53_method_1_code 5 = .ok (.lload_n 3, 1) := by decide +kernel
theorem d4_6 : decode prog_53_method_1_code 6 = .ok (.lcmp, 1) := by decide +kernel
theorem d4_7 : decode prog_53_method_1_code 7 = .ok (.ifCond .le 18, 3) := by decide +kernel
theorem d4_25 : decode prog_53_method_1_code 25 = .ok (.aload_n 0, 1) := by decide +kernel
theorem d4_26 : decode prog_53_method_1_code 26 = .ok (.lload_n 1, 1) := by decide +kernel
theorem d4_27 : decode prog_53_method_1_code 27 = .ok (.putfield 16, 3) := by decide +kernel
theorem d4_30 : decode prog_53_method_1_code 30 = .ok (.aload_n 0, 1) := by decide +kernel
theorem d4_31 : decode prog_53_method_1_code 31 = .ok (.lload_n 3, 1) := by decide +kernel
theorem d4_32 : decode prog_53_method_1_code 32 = .ok (.putfield 22, 3) := by decide +kernel
theorem d4_35 : decode prog_53_method_1_code 35 = .ok (.return_, 1) := by decide +kernel
set_option maxRecDepth 65536 in
set_option maxHeartbeats 40000000 in
theorem rm4 (l : Launch) (Z : State) (a0 : Array Value) (hw : ∀ d ∈ tables_1, d.before a0 Z = true) (ws : List Jvm.Cond) (r0 : Addr) (q1 : Int64) (q2 : Int64) (h0 : Heap) (n0 : Nat) (gn_r0 : n0 ≤ r0) (E_r0 : Exa Z h0 r0 "com/example/ratify/ratify/format/WholeNumbers") (F_least_r0 : Fld Z h0 r0 "com/example/ratify/ratify/format/WholeNumbers" "least" "J" (.long (0 : Int64))) (F_greatest_r0 : Fld Z h0 r0 "com/example/ratify/ratify/format/WholeNumbers" "greatest" "J" (.long (0 : Int64))) (hle : ¬ q2 < q1) :
    Pays l Z (⟨"com/example/ratify/ratify/format/WholeNumbers", "<init>", "(JJ)V"⟩ : MethodName) prog_53_method_1_code 5 none ws ({ frames := 1, cells := 0, slots := 0, locals := 12 } : Room) #[(.ref r0), (.long q1), (.long q2)] h0 (fun v h L => v = none ∧ Fr n0 L ∧ Keep h0 h [r0] ∧ Exa Z h r0 "com/example/ratify/ratify/format/WholeNumbers" ∧ Fld Z h r0 "com/example/ratify/ratify/format/WholeNumbers" "least" "J" (.long q1) ∧ Fld Z h r0 "com/example/ratify/ratify/format/WholeNumbers" "greatest" "J" (.long q2)) := by
  refine EKit.pays (plainFor_of_name pn_com_example_ratify_ratify_format_WholeNumbers) (fun m => ef_rm4 m r0 q1 q2) ?_
  intro p e s m below meth c s₁ hx hby hml hZ hown hnm hret X0 e0 hs0
  refine EKit.aloadN X0 hx rfl rfl (hb hby d4_0) (q := 1) rfl ?_
  obtain ⟨T1, X1, e1, st1⟩ := initO X0 hx hZ hown (hw _ (List.mem_of_getElem? (i := 19) rfl)) (hw _ (List.mem_of_getElem? (i := 20) rfl)) (hw _ (List.mem_of_getElem? (i := 21) rfl)) e0 (g := (mkF m 1 #[.val (.ref r0), .val (.long q1), .second, .val (.long q2), .second] [(.ref r0)])) rfl (by rw [hml]; rfl) rfl (hb hby d4_1) (by decide) (W := 0) (by show 2 * 0 + _ ≤ _; exact Nat.le_of_eq rfl) (by decide)
  refine EKit.step st1 ?_
  show EKit.Ends p l e ({ frames := 1, cells := 0, slots := 0, locals := 12 } : Room) s m #[(.ref r0), (.long q1), (.long q2)] below meth c ({ frames := 1, cells := 0, slots := 0, locals := 12 } : Room).cells ({ frames := 1, cells := 0, slots := 0, locals := 12 } : Room).slots (fun v h L => v = none ∧ Fr n0 L ∧ Keep h0 h [r0] ∧ Exa Z h r0 "com/example/ratify/ratify/format/WholeNumbers" ∧ Fld Z h r0 "com/example/ratify/ratify/format/WholeNumbers" "least" "J" (.long q1) ∧ Fld Z h r0 "com/example/ratify/ratify/format/WholeNumbers" "greatest" "J" (.long q2)) T1 (mkF m 4 #[.val (.ref r0), .val (.long q1), .second, .val (.long q2), .second] [])
  refine EKit.lloadN X1 hx rfl (hb hby d4_4) (q := 5) rfl ?_
  refine EKit.lloadN X1 hx rfl (hb hby d4_5) (q := 6) rfl ?_
  refine EKit.lcmp X1 hx  (hb hby d4_6) (q := 7) rfl ?_
  have h7 : ¬ (q2 < q1) := hle
  refine EKit.ifYes X1 hx (EKit.c_t (flt (EKit.g_f h7)).2.2.2) (hb hby d4_7) (by decide) (q := 25) (by decide) ?_
  refine EKit.aloadN X1 hx rfl rfl (hb hby d4_25) (q := 26) rfl ?_
  refine EKit.lloadN X1 hx rfl (hb hby d4_26) (q := 27) rfl ?_
  obtain ⟨T2, h2, X2, e2, W2, st2⟩ := putF X1 hx hZ hown (host := "") (Or.inl (hw _ (List.mem_of_getElem? (i := 22) rfl))) Via.refl e1 F_least_r0 E_r0 (Or.inr ⟨(hw _ (List.mem_of_getElem? (i := 23) rfl)), rfl, hnm⟩) (hw _ (List.mem_of_getElem? (i := 14) rfl)) (ty := .long) (by decide) rfl rfl (g := (mkF m 27 #[.val (.ref r0), .val (.long q1), .second, .val (.long q2), .second] [(.long q1), (.ref r0)])) rfl rfl (hb hby d4_27)
  have fE_r0_2 := E_r0.wr W2
  have fF_r0_least_2 := F_least_r0.same W2
  have fF_r0_greatest_2 := F_greatest_r0.other W2 (Or.inr (slot_ne (Or.inr (hw _ (List.mem_of_getElem? (i := 25) rfl))) (Or.inr (hw _ (List.mem_of_getElem? (i := 23) rfl))) (by decide) (t := .long) (t' := .long) (by decide) (by decide)))
  have K2 : Keep h0 h2 [r0] := (Keep.refl _ _).wr W2 (Or.inl (List.mem_of_getElem? (i := 0) rfl))
  have N2 := Fr.snoc X2 (Fr.nil _) gn_r0
  have sz2 : h0.size ≤ h2.size := Nat.le_trans (Nat.le_refl _) (Keep.of_wr W2).1
  refine EKit.step st2 ?_
  show EKit.Ends p l e ({ frames := 1, cells := 0, slots := 0, locals := 12 } : Room) s m #[(.ref r0), (.long q1), (.long q2)] below meth c ({ frames := 1, cells := 0, slots := 0, locals := 12 } : Room).cells ({ frames := 1, cells := 0, slots := 0, locals := 12 } : Room).slots (fun v h L => v = none ∧ Fr n0 L ∧ Keep h0 h [r0] ∧ Exa Z h r0 "com/example/ratify/ratify/format/WholeNumbers" ∧ Fld Z h r0 "com/example/ratify/ratify/format/WholeNumbers" "least" "J" (.long q1) ∧ Fld Z h r0 "com/example/ratify/ratify/format/WholeNumbers" "greatest" "J" (.long q2)) T2 (mkF m 30 #[.val (.ref r0), .val (.long q1), .second, .val (.long q2), .second] [])
  refine EKit.aloadN X2 hx rfl rfl (hb hby d4_30) (q := 31) rfl ?_
  refine EKit.lloadN X2 hx rfl (hb hby d4_31) (q := 32) rfl ?_
  obtain ⟨T3, h3, X3, e3, W3, st3⟩ := putF X2 hx hZ hown (host := "") (Or.inl (hw _ (List.mem_of_getElem? (i := 24) rfl))) Via.refl e2 fF_r0_greatest_2 fE_r0_2 (Or.inr ⟨(hw _ (List.mem_of_getElem? (i := 25) rfl)), rfl, hnm⟩) (hw _ (List.mem_of_getElem? (i := 14) rfl)) (ty := .long) (by decide) rfl rfl (g := (mkF m 32 #[.val (.ref r0), .val (.long q1), .second, .val (.long q2), .second] [(.long q2), (.ref r0)])) rfl rfl (hb hby d4_32)
  have fE_r0_3 := fE_r0_2.wr W3
  have fF_r0_least_3 := fF_r0_least_2.other W3 (Or.inr (slot_ne (Or.inr (hw _ (List.mem_of_getElem? (i := 23) rfl))) (Or.inr (hw _ (List.mem_of_getElem? (i := 25) rfl))) (by decide) (t := .long) (t' := .long) (by decide) (by decide)))
  have fF_r0_greatest_3 := fF_r0_greatest_2.same W3
  have K3 : Keep h0 h3 [r0] := (K2).wr W3 (Or.inl (List.mem_of_getElem? (i := 0) rfl))
  have N3 := Fr.snoc X3 N2 gn_r0
  have sz3 : h0.size ≤ h3.size := Nat.le_trans sz2 (Keep.of_wr W3).1
  refine EKit.step st3 ?_
  show EKit.Ends p l e ({ frames := 1, cells := 0, slots := 0, locals := 12 } : Room) s m #[(.ref r0), (.long q1), (.long q2)] below meth c ({ frames := 1, cells := 0, slots := 0, locals := 12 } : Room).cells ({ frames := 1, cells := 0, slots := 0, locals := 12 } : Room).slots (fun v h L => v = none ∧ Fr n0 L ∧ Keep h0 h [r0] ∧ Exa Z h r0 "com/example/ratify/ratify/format/WholeNumbers" ∧ Fld Z h r0 "com/example/ratify/ratify/format/WholeNumbers" "least" "J" (.long q1) ∧ Fld Z h r0 "com/example/ratify/ratify/format/WholeNumbers" "greatest" "J" (.long q2)) T3 (mkF m 35 #[.val (.ref r0), .val (.long q1), .second, .val (.long q2), .second] [])
  exact EKit.retV X3 hx hret (hb hby d4_35) (by rw [e3]; exact ⟨rfl, N3, K3, fE_r0_3, fF_r0_least_3, fF_r0_greatest_3⟩) (by decide) (by decide)
def own_holds (le gr n : Int64) : Int32 := if n < le then 0 else if gr < n then 0 else 1
theorem ef_rm6 (m : MethodId) (r0 : Addr) (q1 : Int64) : entryFrame m #[(.ref r0), (.long q1)] 3 = mkF m 0 #[.val (.ref r0), .val (.long q1), .second] [] := by first | (simp [entryFrame, mkF, argsToLocals, Value.category]; done) | rfl
theorem d6_0 : decode prog_53_method_3_code 0 = .ok (.lload_n 1, 1) := by decide +kernel
theorem d6_1 : decode prog_53_method_3_code 1 = .ok (.aload_n 0, 1) := by decide +kernel
theorem d6_2 : decode prog_53_method_3_code 2 = .ok (.getfield 16, 3) := by decide +kernel
theorem d6_5 : decode prog_53_method_3_code 5 = .ok (.lcmp, 1) := by decide +kernel
theorem d6_6 : decode prog_53_method_3_code 6 = .ok (.ifCond .lt 16, 3) := by decide +kernel
theorem d6_22 : decode prog_53_method_3_code 22 = .ok (.iconst 0, 1) := by decide +kernel
theorem d6_23 : decode prog_53_method_3_code 23 = .ok (.ireturn, 1) := by decide +kernel
theorem d6_9 : decode prog_53_method_3_code 9 = .ok (.lload_n 1, 1) := by decide +kernel
theorem d6_10 : decode prog_53_method_3_code 10 = .ok (.aload_n 0, 1) := by decide +kernel
theorem d6_11 : decode prog_53_method_3_code 11 = .ok (.getfield 22, 3) := by decide +kernel
theorem d6_14 : decode prog_53_method_3_code 14 = .ok (.lcmp, 1) := by decide +kernel
theorem d6_15 : decode prog_53_method_3_code 15 = .ok (.ifCond .gt 7, 3) := by decide +kernel
theorem d6_18 : decode prog_53_method_3_code 18 = .ok (.iconst 1, 1) := by decide +kernel
theorem d6_19 : decode prog_53_method_3_code 19 = .ok (.goto 4, 3) := by decide +kernel
set_option maxRecDepth 65536 in
set_option maxHeartbeats 40000000 in
theorem rm6 (l : Launch) (Z : State) (a0 : Array Value) (hw : ∀ d ∈ tables_1, d.before a0 Z = true) (ws : List Jvm.Cond) (r0 : Addr) (q1 : Int64) (h0 : Heap) (f1 f2 : Int64) (F1 : Fld Z h0 r0 "com/example/ratify/ratify/format/WholeNumbers" "least" "J" (.long f1)) (F2 : Fld Z h0 r0 "com/example/ratify/ratify/format/WholeNumbers" "greatest" "J" (.long f2)) :
    Pays l Z (⟨"com/example/ratify/ratify/format/WholeNumbers", "holds", "(J)Z"⟩ : MethodName) prog_53_method_3_code 3 (some .boolean) ws ({ frames := 0, cells := 0, slots := 0, locals := 0 } : Room) #[(.ref r0), (.long q1)] h0 (RetQ (some (.int (own_holds f1 f2 q1))) h0) := by
  refine EKit.pays (plainFor_of_name pn_com_example_ratify_ratify_format_WholeNumbers) (fun m => ef_rm6 m r0 q1) ?_
  intro p e s m below meth c s₁ hx hby hml hZ hown hnm hret X0 e0 hs0
  refine EKit.lloadN X0 hx rfl (hb hby d6_0) (q := 1) rfl ?_
  refine EKit.aloadN X0 hx rfl rfl (hb hby d6_1) (q := 2) rfl ?_
  obtain ⟨T1, X1, e1, st1⟩ := getF X0 hx hZ hown (host := "") (Or.inl (hw _ (List.mem_of_getElem? (i := 22) rfl))) Via.refl e0 F1 (g := (mkF m 2 #[.val (.ref r0), .val (.long q1), .second] [(.ref r0), (.long q1)])) rfl rfl (hb hby d6_2)
  refine EKit.step st1 ?_
  show EKit.Ends p l e ({ frames := 0, cells := 0, slots := 0, locals := 0 } : Room) s m #[(.ref r0), (.long q1)] below meth c ({ frames := 0, cells := 0, slots := 0, locals := 0 } : Room).cells ({ frames := 0, cells := 0, slots := 0, locals := 0 } : Room).slots (RetQ (some (.int (own_holds f1 f2 q1))) h0) T1 (mkF m 5 #[.val (.ref r0), .val (.long q1), .second] [(.long f1), (.long q1)])
  refine EKit.lcmp X1 hx  (hb hby d6_5) (q := 6) rfl ?_
  by_cases h6 : q1 < f1
  · skip
    refine EKit.ifYes X1 hx (EKit.c_t (tlt (EKit.l_t h6)).1) (hb hby d6_6) (by decide) (q := 22) (by decide) ?_
    refine EKit.iconst X1 hx (v := (0 : Int32)) rfl (hb hby d6_22) (q := 23) rfl ?_
    exact EKit.retZ X1 hx hret (by simp) (hb hby d6_23) (⟨congrArg (fun z => some (Value.int z)) (show nar .boolean (0 : Int32) = own_holds f1 f2 q1 from by simp [own_holds, h6] <;> decide), e1, rfl⟩) (by decide) (by decide)
  · skip
    refine EKit.ifNo X1 hx (EKit.c_t (flt (EKit.l_f h6)).1) (hb hby d6_6) (q := 9) rfl ?_
    refine EKit.lloadN X1 hx rfl (hb hby d6_9) (q := 10) rfl ?_
    refine EKit.aloadN X1 hx rfl rfl (hb hby d6_10) (q := 11) rfl ?_
    obtain ⟨T2, X2, e2, st2⟩ := getF X1 hx hZ hown (host := "") (Or.inl (hw _ (List.mem_of_getElem? (i := 24) rfl))) Via.refl e1 F2 (g := (mkF m 11 #[.val (.ref r0), .val (.long q1), .second] [(.ref r0), (.long q1)])) rfl rfl (hb hby d6_11)
    refine EKit.step st2 ?_
    show EKit.Ends p l e ({ frames := 0, cells := 0, slots := 0, locals := 0 } : Room) s m #[(.ref r0), (.long q1)] below meth c ({ frames := 0, cells := 0, slots := 0, locals := 0 } : Room).cells ({ frames := 0, cells := 0, slots := 0, locals := 0 } : Room).slots (RetQ (some (.int (own_holds f1 f2 q1))) h0) T2 (mkF m 14 #[.val (.ref r0), .val (.long q1), .second] [(.long f2), (.long q1)])
    refine EKit.lcmp X2 hx  (hb hby d6_14) (q := 15) rfl ?_
    by_cases h15 : f2 < q1
    · skip
      refine EKit.ifYes X2 hx (EKit.c_t (tlt (EKit.g_t h15)).2.2.1) (hb hby d6_15) (by decide) (q := 22) (by decide) ?_
      refine EKit.iconst X2 hx (v := (0 : Int32)) rfl (hb hby d6_22) (q := 23) rfl ?_
      exact EKit.retZ X2 hx hret (by simp) (hb hby d6_23) (⟨congrArg (fun z => some (Value.int z)) (show nar .boolean (0 : Int32) = own_holds f1 f2 q1 from by simp [own_holds, h6, h15] <;> decide), e2, rfl⟩) (by decide) (by decide)
    · skip
      refine EKit.ifNo X2 hx (EKit.c_t (flt (EKit.g_f h15)).2.2.1) (hb hby d6_15) (q := 18) rfl ?_
      refine EKit.iconst X2 hx (v := (1 : Int32)) rfl (hb hby d6_18) (q := 19) rfl ?_
      refine EKit.goto X2 hx (hb hby d6_19) (by decide) (q := 23) (by decide) ?_
      exact EKit.retZ X2 hx hret (by simp) (hb hby d6_23) (⟨congrArg (fun z => some (Value.int z)) (show nar .boolean (1 : Int32) = own_holds f1 f2 q1 from by simp [own_holds, h6, h15] <;> decide), e2, rfl⟩) (by decide) (by decide)
theorem own_flip (x : Int64) : (x ^^^ (-9223372036854775808 : Int64)).toInt = if x.toInt < 0 then x.toInt + 9223372036854775808 else x.toInt - 9223372036854775808 := by
  have hm : (-9223372036854775808 : Int64).toInt = -9223372036854775808 := by decide +kernel
  have hs := c_xorSL x (-9223372036854775808 : Int64)
  have e : (x ^^^ (-9223372036854775808 : Int64)).toBitVec.toNat % 2 ^ 63 = x.toBitVec.toNat % 2 ^ 63 := by
    rw [Int64.toBitVec_xor, BitVec.toNat_xor, Nat.xor_mod_two_pow]
    rw [show (-9223372036854775808 : Int64).toBitVec.toNat % 2 ^ 63 = 0 from by decide +kernel, Nat.xor_zero]
  have t1 : (x ^^^ (-9223372036854775808 : Int64)).toInt = if 2 * (x ^^^ (-9223372036854775808 : Int64)).toBitVec.toNat < 2 ^ 64 then ((x ^^^ (-9223372036854775808 : Int64)).toBitVec.toNat : Int) else ((x ^^^ (-9223372036854775808 : Int64)).toBitVec.toNat : Int) - (2 ^ 64 : Nat) := BitVec.toInt_eq_toNat_cond _
  have t2 : x.toInt = if 2 * x.toBitVec.toNat < 2 ^ 64 then (x.toBitVec.toNat : Int) else (x.toBitVec.toNat : Int) - (2 ^ 64 : Nat) := BitVec.toInt_eq_toNat_cond _
  have b1 := (x ^^^ (-9223372036854775808 : Int64)).toBitVec.isLt
  have b2 := x.toBitVec.isLt
  generalize (x ^^^ (-9223372036854775808 : Int64)).toBitVec.toNat = A at *
  generalize x.toBitVec.toNat = B at *
  generalize (x ^^^ (-9223372036854775808 : Int64)).toInt = Y at *
  generalize x.toInt = W at *
  rw [hm] at hs
  split at t1 <;> split at t2 <;> split <;> omega
theorem own_ans (a b n : Int64) : own_holds (own_min a b) (own_max a b) n = own_uam (n - own_min a b) (own_max a b - own_min a b) := by
  have h1 := own_min_i a b
  have h2 := own_max_i a b
  generalize own_min a b = u at *
  generalize own_max a b = v at *
  have e1 := c_lsub n u
  have e2 := c_lsub v u
  have r1 := rng64 (n - u)
  have r2 := rng64 (v - u)
  have f1 := own_flip (n - u)
  have f2 := own_flip (v - u)
  have ra := rng64 a
  have rb := rng64 b
  have rn := rng64 n
  have ru := rng64 u
  have rv := rng64 v
  unfold own_holds own_uam
  simp only [Int64.lt_iff_toInt_lt]
  split at f1 <;> split at f2 <;> split <;> (try split) <;> (try split) <;> first | rfl | (exfalso; omega)
theorem ef_rm0 (m : MethodId) (q0 : Int64) (q1 : Int64) (q2 : Int64) (p3 : Int32) : entryFrame m #[(.long q0), (.long q1), (.long q2), (.int p3)] maxLocals = mkF m 0 #[.val (.long q0), .second, .val (.long q1), .second, .val (.long q2), .second, .val (.int p3), .unset, .unset, .unset, .unset, .unset, .unset, .unset, .unset, .unset, .unset, .unset] [] := by first | (simp [entryFrame, mkF, argsToLocals, Value.category, maxLocals]; done) | rfl
theorem pd__JJ_J : parseMethodDescriptor "(JJ)J" = some ⟨[.long, .long], some .long⟩ := by decide +kernel
theorem pd__JJ_Z : parseMethodDescriptor "(JJ)Z" = some ⟨[.long, .long], some .boolean⟩ := by decide +kernel
theorem pd__JJ_V : parseMethodDescriptor "(JJ)V" = some ⟨[.long, .long], none⟩ := by decide +kernel
theorem pd__J_Z : parseMethodDescriptor "(J)Z" = some ⟨[.long], some .boolean⟩ := by decide +kernel
set_option maxRecDepth 65536 in
set_option maxHeartbeats 40000000 in
theorem rm0 (l : Launch) (Z : State) (a0 : Array Value) (hw : ∀ d ∈ tables_1, d.before a0 Z = true) (ws : List Jvm.Cond) (q0 : Int64) (q1 : Int64) (q2 : Int64) (p3 : Int32) (h0 : Heap)  :
    Pays l Z x code maxLocals ret ws room_1 #[(.long q0), (.long q1), (.long q2), (.int p3)] h0 (fun v h L => v = some (.int (1 : Int32)) ∧ Fr h0.size L) := by
  refine EKit.pays (plainFor_of_name pn_com_example_ratify_ratify_format_WholeNumbersHoldsPinLaw) (fun m => ef_rm0 m q0 q1 q2 p3) ?_
  intro p e s m below meth c s₁ hx hby hml hZ hown hnm hret X0 e0 hs0
  refine EKit.lloadN X0 hx rfl (hb hby at_0) (q := 1) rfl ?_
  refine EKit.lloadN X0 hx rfl (hb hby at_1) (q := 2) rfl ?_
  refine EKit.callS X0 hx hZ hown e0 (y := (⟨"java/lang/Math", "min", "(JJ)J"⟩ : MethodName)) (hw _ (List.mem_of_getElem? (i := 0) rfl)) (hw _ (List.mem_of_getElem? (i := 1) rfl)) (hw _ (List.mem_of_getElem? (i := 2) rfl)) (hw _ (List.mem_of_getElem? (i := 3) rfl)) (by decide) (argsL := [(.long q0), (.long q1)]) (rm1 l Z a0 hw [] q0 q1 h0 ) (rest := []) (by rw [hml]; rfl) pd__JJ_J rfl (W := 0) (Nat.le_of_eq rfl) (by decide) (by decide) (by decide) (by decide) rfl (hb hby at_2) (q := 5) rfl ?_
  intro T1 v1 L1 X1 hQ1
  obtain ⟨X1, e1, ev1⟩ := EKit.pureK X1 hQ1
  subst ev1
  show EKit.Ends p l e room_1 s m #[(.long q0), (.long q1), (.long q2), (.int p3)] below meth c room_1.cells room_1.slots (fun v h L => v = some (.int (1 : Int32)) ∧ Fr h0.size L) T1 (mkF m 5 #[.val (.long q0), .second, .val (.long q1), .second, .val (.long q2), .second, .val (.int p3), .unset, .unset, .unset, .unset, .unset, .unset, .unset, .unset, .unset, .unset, .unset] [(.long (own_min q0 q1))])
  refine EKit.lstore X1 hx (l' := #[.val (.long q0), .second, .val (.long q1), .second, .val (.long q2), .second, .val (.int p3), .val (.long (own_min q0 q1)), .second, .unset, .unset, .unset, .unset, .unset, .unset, .unset, .unset, .unset]) rfl (hb hby at_5) (q := 7) rfl ?_
  refine EKit.lloadN X1 hx rfl (hb hby at_7) (q := 8) rfl ?_
  refine EKit.lloadN X1 hx rfl (hb hby at_8) (q := 9) rfl ?_
  refine EKit.callS X1 hx hZ hown e1 (y := (⟨"java/lang/Math", "max", "(JJ)J"⟩ : MethodName)) (hw _ (List.mem_of_getElem? (i := 4) rfl)) (hw _ (List.mem_of_getElem? (i := 5) rfl)) (hw _ (List.mem_of_getElem? (i := 2) rfl)) (hw _ (List.mem_of_getElem? (i := 6) rfl)) (by decide) (argsL := [(.long q0), (.long q1)]) (rm2 l Z a0 hw [] q0 q1 h0 ) (rest := []) (by rw [hml]; rfl) pd__JJ_J rfl (W := 0) (Nat.le_of_eq rfl) (by decide) (by decide) (by decide) (by decide) rfl (hb hby at_9) (q := 12) rfl ?_
  intro T2 v2 L2 X2 hQ2
  obtain ⟨X2, e2, ev2⟩ := EKit.pureK X2 hQ2
  subst ev2
  show EKit.Ends p l e room_1 s m #[(.long q0), (.long q1), (.long q2), (.int p3)] below meth c room_1.cells room_1.slots (fun v h L => v = some (.int (1 : Int32)) ∧ Fr h0.size L) T2 (mkF m 12 #[.val (.long q0), .second, .val (.long q1), .second, .val (.long q2), .second, .val (.int p3), .val (.long (own_min q0 q1)), .second, .unset, .unset, .unset, .unset, .unset, .unset, .unset, .unset, .unset] [(.long (own_max q0 q1))])
  refine EKit.lstore X2 hx (l' := #[.val (.long q0), .second, .val (.long q1), .second, .val (.long q2), .second, .val (.int p3), .val (.long (own_min q0 q1)), .second, .val (.long (own_max q0 q1)), .second, .unset, .unset, .unset, .unset, .unset, .unset, .unset]) rfl (hb hby at_12) (q := 14) rfl ?_
  refine EKit.iload X2 hx rfl (hb hby at_14) (q := 16) rfl ?_
  refine EKit.iconst X2 hx (v := (3 : Int32)) rfl (hb hby at_16) (q := 17) rfl ?_
  refine EKit.iand X2 hx  (hb hby at_17) (q := 18) rfl ?_
  refine EKit.istore X2 hx (l' := #[.val (.long q0), .second, .val (.long q1), .second, .val (.long q2), .second, .val (.int p3), .val (.long (own_min q0 q1)), .second, .val (.long (own_max q0 q1)), .second, .val (.int (p3 &&& (3 : Int32))), .unset, .unset, .unset, .unset, .unset, .unset]) rfl (hb hby at_18) (q := 20) rfl ?_
  refine EKit.iload X2 hx rfl (hb hby at_20) (q := 22) rfl ?_
  refine EKit.iconst X2 hx (v := (2 : Int32)) rfl (hb hby at_22) (q := 23) rfl ?_
  refine EKit.iushr X2 hx  (hb hby at_23) (q := 24) rfl ?_
  refine EKit.iconst X2 hx (v := (5 : Int32)) rfl (hb hby at_24) (q := 25) rfl ?_
  refine EKit.irem X2 hx (by decide) (hb hby at_25) (q := 26) rfl ?_
  refine EKit.i2l X2 hx  (hb hby at_26) (q := 27) rfl ?_
  refine EKit.ldc2Long X2 hx hZ hown (hw _ (List.mem_of_getElem? (i := 7) rfl)) (hb hby at_27) (q := 30) rfl ?_
  refine EKit.lsub X2 hx  (hb hby at_30) (q := 31) rfl ?_
  refine EKit.lstore X2 hx (l' := #[.val (.long q0), .second, .val (.long q1), .second, .val (.long q2), .second, .val (.int p3), .val (.long (own_min q0 q1)), .second, .val (.long (own_max q0 q1)), .second, .val (.int (p3 &&& (3 : Int32))), .val (.long (((((p3.toUInt32 >>> ((2 : Int32) &&& 31).toUInt32).toInt32) % (5 : Int32)).toInt64) - (2 : Int64))), .second, .unset, .unset, .unset, .unset]) rfl (hb hby at_31) (q := 33) rfl ?_
  refine EKit.iload X2 hx rfl (hb hby at_33) (q := 35) rfl ?_
  refine EKit.iconst X2 hx (v := (1 : Int32)) rfl (hb hby at_35) (q := 36) rfl ?_
  have J69_3 : ∀ (TJ3 : State) (XJ3 : Stand p l e room_1 s m #[(.long q0), (.long q1), (.long q2), (.int p3)] below meth c TJ3 [] 0 0) (eJ3 : TJ3.heap = h0) (nn : Int64), EKit.Ends p l e room_1 s m #[(.long q0), (.long q1), (.long q2), (.int p3)] below meth c room_1.cells room_1.slots (fun v h L => v = some (.int (1 : Int32)) ∧ Fr h0.size L) TJ3 (mkF m 69 #[.val (.long q0), .second, .val (.long q1), .second, .val (.long q2), .second, .val (.int p3), .val (.long (own_min q0 q1)), .second, .val (.long (own_max q0 q1)), .second, .val (.int (p3 &&& (3 : Int32))), .val (.long (((((p3.toUInt32 >>> ((2 : Int32) &&& 31).toUInt32).toInt32) % (5 : Int32)).toInt64) - (2 : Int64))), .second, .val (.long nn), .second, .unset, .unset] []) := by
    intro TJ3 XJ3 eJ3 nn
    refine EKit.lload XJ3 hx rfl (hb hby at_69) (q := 71) rfl ?_
    refine EKit.lload XJ3 hx rfl (hb hby at_71) (q := 73) rfl ?_
    refine EKit.lsub XJ3 hx  (hb hby at_73) (q := 74) rfl ?_
    refine EKit.lload XJ3 hx rfl (hb hby at_74) (q := 76) rfl ?_
    refine EKit.lload XJ3 hx rfl (hb hby at_76) (q := 78) rfl ?_
    refine EKit.lsub XJ3 hx  (hb hby at_78) (q := 79) rfl ?_
    refine EKit.callS XJ3 hx hZ hown eJ3 (y := (⟨"com/example/ratify/ratify/format/WholeNumbersHoldsPinLaw", "unsignedAtMost", "(JJ)Z"⟩ : MethodName)) (hw _ (List.mem_of_getElem? (i := 8) rfl)) (hw _ (List.mem_of_getElem? (i := 9) rfl)) (hw _ (List.mem_of_getElem? (i := 10) rfl)) (hw _ (List.mem_of_getElem? (i := 11) rfl)) (by decide) (argsL := [(.long (nn - (own_min q0 q1))), (.long ((own_max q0 q1) - (own_min q0 q1)))]) (rm3 l Z a0 hw [] (nn - (own_min q0 q1)) ((own_max q0 q1) - (own_min q0 q1)) h0 ) (rest := []) (by rw [hml]; rfl) pd__JJ_Z rfl (W := 0) (Nat.le_of_eq rfl) (by decide) (by decide) (by decide) (by decide) rfl (hb hby at_79) (q := 82) rfl ?_
    intro T4 v4 L4 X4 hQ4
    obtain ⟨X4, e4, ev4⟩ := EKit.pureK X4 hQ4
    subst ev4
    show EKit.Ends p l e room_1 s m #[(.long q0), (.long q1), (.long q2), (.int p3)] below meth c room_1.cells room_1.slots (fun v h L => v = some (.int (1 : Int32)) ∧ Fr h0.size L) T4 (mkF m 82 #[.val (.long q0), .second, .val (.long q1), .second, .val (.long q2), .second, .val (.int p3), .val (.long (own_min q0 q1)), .second, .val (.long (own_max q0 q1)), .second, .val (.int (p3 &&& (3 : Int32))), .val (.long (((((p3.toUInt32 >>> ((2 : Int32) &&& 31).toUInt32).toInt32) % (5 : Int32)).toInt64) - (2 : Int64))), .second, .val (.long nn), .second, .unset, .unset] [(.int (own_uam (nn - (own_min q0 q1)) ((own_max q0 q1) - (own_min q0 q1))))])
    refine EKit.istore X4 hx (l' := #[.val (.long q0), .second, .val (.long q1), .second, .val (.long q2), .second, .val (.int p3), .val (.long (own_min q0 q1)), .second, .val (.long (own_max q0 q1)), .second, .val (.int (p3 &&& (3 : Int32))), .val (.long (((((p3.toUInt32 >>> ((2 : Int32) &&& 31).toUInt32).toInt32) % (5 : Int32)).toInt64) - (2 : Int64))), .second, .val (.long nn), .second, .val (.int (own_uam (nn - (own_min q0 q1)) ((own_max q0 q1) - (own_min q0 q1)))), .unset]) rfl (hb hby at_82) (q := 84) rfl ?_
    obtain ⟨T5, h5, X5, e5, E5, A5, D5, -, st5⟩ := newO X4 hx hZ hown (hw _ (List.mem_of_getElem? (i := 13) rfl)) (hw _ (List.mem_of_getElem? (i := 14) rfl)) (hw _ (List.mem_of_getElem? (i := 15) rfl)) e4 (g := (mkF m 84 #[.val (.long q0), .second, .val (.long q1), .second, .val (.long q2), .second, .val (.int p3), .val (.long (own_min q0 q1)), .second, .val (.long (own_max q0 q1)), .second, .val (.int (p3 &&& (3 : Int32))), .val (.long (((((p3.toUInt32 >>> ((2 : Int32) &&& 31).toUInt32).toInt32) % (5 : Int32)).toInt64) - (2 : Int64))), .second, .val (.long nn), .second, .val (.int (own_uam (nn - (own_min q0 q1)) ((own_max q0 q1) - (own_min q0 q1)))), .unset] [])) rfl (hb hby at_84) (by decide) (by decide)
    obtain ⟨b5, g5⟩ : ∃ z, z = h0.size := ⟨_, rfl⟩
    rw [← g5] at A5 D5 st5
    have gn_b5 : h0.size ≤ b5 := Nat.le_trans (Nat.le_refl _) (Nat.le_of_eq g5.symm)
    have sz5 : h0.size ≤ h5.size := Nat.le_trans (Nat.le_refl _) E5.1
    have F_least_b5 : Fld Z h5 b5 "com/example/ratify/ratify/format/WholeNumbers" "least" "J" (.long (0 : Int64)) := D5 (Or.inr (hw _ (List.mem_of_getElem? (i := 23) rfl))) (ty := .long) (by decide)
    have F_greatest_b5 : Fld Z h5 b5 "com/example/ratify/ratify/format/WholeNumbers" "greatest" "J" (.long (0 : Int64)) := D5 (Or.inr (hw _ (List.mem_of_getElem? (i := 25) rfl))) (ty := .long) (by decide)
    have EX5 := E5
    refine EKit.step st5 ?_
    show EKit.Ends p l e room_1 s m #[(.long q0), (.long q1), (.long q2), (.int p3)] below meth c room_1.cells room_1.slots (fun v h L => v = some (.int (1 : Int32)) ∧ Fr h0.size L) T5 (mkF m 87 #[.val (.long q0), .second, .val (.long q1), .second, .val (.long q2), .second, .val (.int p3), .val (.long (own_min q0 q1)), .second, .val (.long (own_max q0 q1)), .second, .val (.int (p3 &&& (3 : Int32))), .val (.long (((((p3.toUInt32 >>> ((2 : Int32) &&& 31).toUInt32).toInt32) % (5 : Int32)).toInt64) - (2 : Int64))), .second, .val (.long nn), .second, .val (.int (own_uam (nn - (own_min q0 q1)) ((own_max q0 q1) - (own_min q0 q1)))), .unset] [(.ref b5)])
    refine EKit.dup X5 hx rfl (hb hby at_87) (q := 88) rfl ?_
    refine EKit.lload X5 hx rfl (hb hby at_88) (q := 90) rfl ?_
    refine EKit.lload X5 hx rfl (hb hby at_90) (q := 92) rfl ?_
    refine EKit.callI X5 hx hZ hown e5 (y := (⟨"com/example/ratify/ratify/format/WholeNumbers", "<init>", "(JJ)V"⟩ : MethodName)) rfl (hw _ (List.mem_of_getElem? (i := 16) rfl)) (hw _ (List.mem_of_getElem? (i := 17) rfl)) (hw _ (List.mem_of_getElem? (i := 15) rfl)) (hw _ (List.mem_of_getElem? (i := 18) rfl)) (by decide) (a := b5) (argsL := [(.long (own_min q0 q1)), (.long (own_max q0 q1))]) (rm4 l Z a0 hw [] b5 (own_min q0 q1) (own_max q0 q1) h5 h0.size gn_b5 A5 F_least_b5 F_greatest_b5 (own_mm q0 q1)) (rest := [(.ref b5)]) (by rw [hml]; rfl) pd__JJ_V rfl (W := 1) (Nat.le_of_eq rfl) (by decide) (by decide) (by decide) (by decide) rfl (hb hby at_92) (q := 95) rfl ?_
    intro T6 v6 L6 X6 hQ6
    obtain ⟨rfl, N6q, K6, Ea6, Fa6_least, Fa6_greatest⟩ := hQ6
    have X6 := Stand.forget X6 (fun y hy => by rw [hs0]; exact N6q y hy)
    have sz6 : h0.size ≤ T6.heap.size := Nat.le_trans sz5 K6.1
    have fE_b5_6 := A5.keep K6
    have EX6 := EKit.Ext_keep EX5 K6 (allS gn_b5 all0)
    show EKit.Ends p l e room_1 s m #[(.long q0), (.long q1), (.long q2), (.int p3)] below meth c room_1.cells room_1.slots (fun v h L => v = some (.int (1 : Int32)) ∧ Fr h0.size L) T6 (mkF m 95 #[.val (.long q0), .second, .val (.long q1), .second, .val (.long q2), .second, .val (.int p3), .val (.long (own_min q0 q1)), .second, .val (.long (own_max q0 q1)), .second, .val (.int (p3 &&& (3 : Int32))), .val (.long (((((p3.toUInt32 >>> ((2 : Int32) &&& 31).toUInt32).toInt32) % (5 : Int32)).toInt64) - (2 : Int64))), .second, .val (.long nn), .second, .val (.int (own_uam (nn - (own_min q0 q1)) ((own_max q0 q1) - (own_min q0 q1)))), .unset] [(.ref b5)])
    refine EKit.astore X6 hx rfl (l' := #[.val (.long q0), .second, .val (.long q1), .second, .val (.long q2), .second, .val (.int p3), .val (.long (own_min q0 q1)), .second, .val (.long (own_max q0 q1)), .second, .val (.int (p3 &&& (3 : Int32))), .val (.long (((((p3.toUInt32 >>> ((2 : Int32) &&& 31).toUInt32).toInt32) % (5 : Int32)).toInt64) - (2 : Int64))), .second, .val (.long nn), .second, .val (.int (own_uam (nn - (own_min q0 q1)) ((own_max q0 q1) - (own_min q0 q1)))), .val (.ref b5)]) rfl (hb hby at_95) (q := 97) rfl ?_
    refine EKit.aload X6 hx rfl rfl (hb hby at_97) (q := 99) rfl ?_
    refine EKit.lload X6 hx rfl (hb hby at_99) (q := 101) rfl ?_
    refine EKit.callV X6 hx hZ hown rfl (y := (⟨"com/example/ratify/ratify/format/WholeNumbers", "holds", "(J)Z"⟩ : MethodName)) (z := (⟨"com/example/ratify/ratify/format/WholeNumbers", "holds", "(J)Z"⟩ : MethodName)) (K := "com/example/ratify/ratify/format/WholeNumbers") (hw _ (List.mem_of_getElem? (i := 26) rfl)) (hw _ (List.mem_of_getElem? (i := 27) rfl)) (notFace_of_selects (args := #[]) (mvT hZ (hw _ (List.mem_of_getElem? (i := 29) rfl)))) (hw _ (List.mem_of_getElem? (i := 29) rfl)) (hw _ (List.mem_of_getElem? (i := 28) rfl)) (hw _ (List.mem_of_getElem? (i := 15) rfl)) (hw _ (List.mem_of_getElem? (i := 30) rfl)) (by decide) (a := b5) (fE_b5_6) (argsL := [(.long nn)]) (rm6 l Z a0 hw [] b5 nn T6.heap (own_min q0 q1) (own_max q0 q1) Fa6_least Fa6_greatest) (rest := []) (by rw [hml]; rfl) pd__J_Z rfl (W := 0) (Nat.le_of_eq rfl) (by decide) (by decide) (by decide) (by decide) rfl (hb hby at_101) (q := 104) rfl ?_
    intro T7 v7 L7 X7 hQ7
    obtain ⟨X7, e7, ev7⟩ := EKit.pureK X7 hQ7
    subst ev7
    show EKit.Ends p l e room_1 s m #[(.long q0), (.long q1), (.long q2), (.int p3)] below meth c room_1.cells room_1.slots (fun v h L => v = some (.int (1 : Int32)) ∧ Fr h0.size L) T7 (mkF m 104 #[.val (.long q0), .second, .val (.long q1), .second, .val (.long q2), .second, .val (.int p3), .val (.long (own_min q0 q1)), .second, .val (.long (own_max q0 q1)), .second, .val (.int (p3 &&& (3 : Int32))), .val (.long (((((p3.toUInt32 >>> ((2 : Int32) &&& 31).toUInt32).toInt32) % (5 : Int32)).toInt64) - (2 : Int64))), .second, .val (.long nn), .second, .val (.int (own_uam (nn - (own_min q0 q1)) ((own_max q0 q1) - (own_min q0 q1)))), .val (.ref b5)] [(.int (own_holds (own_min q0 q1) (own_max q0 q1) nn))])
    refine EKit.iload X7 hx rfl (hb hby at_104) (q := 106) rfl ?_
    have h106 : (own_holds (own_min q0 q1) (own_max q0 q1) nn) = (own_uam (nn - (own_min q0 q1)) ((own_max q0 q1) - (own_min q0 q1))) := own_ans q0 q1 nn
    refine EKit.icmpNo X7 hx ((teq h106).2) (hb hby at_106) (q := 109) rfl ?_
    refine EKit.iconst X7 hx (v := (1 : Int32)) rfl (hb hby at_109) (q := 110) rfl ?_
    refine EKit.goto X7 hx (hb hby at_110) (by decide) (q := 114) (by decide) ?_
    exact EKit.retZ X7 hx hret (by simp) (hb hby at_114) (⟨rfl, (Fr.nil _)⟩) (by decide) (by decide)
  by_cases h36 : (p3 &&& (3 : Int32)) = (1 : Int32)
  · skip
    refine EKit.icmpNo X2 hx ((teq h36).2) (hb hby at_36) (q := 39) rfl ?_
    refine EKit.lload X2 hx rfl (hb hby at_39) (q := 41) rfl ?_
    refine EKit.lload X2 hx rfl (hb hby at_41) (q := 43) rfl ?_
    refine EKit.ladd X2 hx  (hb hby at_43) (q := 44) rfl ?_
    refine EKit.lstore X2 hx (l' := #[.val (.long q0), .second, .val (.long q1), .second, .val (.long q2), .second, .val (.int p3), .val (.long (own_min q0 q1)), .second, .val (.long (own_max q0 q1)), .second, .val (.int (p3 &&& (3 : Int32))), .val (.long (((((p3.toUInt32 >>> ((2 : Int32) &&& 31).toUInt32).toInt32) % (5 : Int32)).toInt64) - (2 : Int64))), .second, .val (.long ((own_min q0 q1) + (((((p3.toUInt32 >>> ((2 : Int32) &&& 31).toUInt32).toInt32) % (5 : Int32)).toInt64) - (2 : Int64)))), .second, .unset, .unset]) rfl (hb hby at_44) (q := 46) rfl ?_
    refine EKit.goto X2 hx (hb hby at_46) (by decide) (q := 69) (by decide) ?_
    exact J69_3 T2 X2 e2 ((own_min q0 q1) + (((((p3.toUInt32 >>> ((2 : Int32) &&& 31).toUInt32).toInt32) % (5 : Int32)).toInt64) - (2 : Int64)))
  · skip
    refine EKit.icmpYes X2 hx ((feq h36).2) (hb hby at_36) (by decide) (q := 49) (by decide) ?_
    refine EKit.iload X2 hx rfl (hb hby at_49) (q := 51) rfl ?_
    refine EKit.iconst X2 hx (v := (2 : Int32)) rfl (hb hby at_51) (q := 52) rfl ?_
    by_cases h52 : (p3 &&& (3 : Int32)) = (2 : Int32)
    · skip
      refine EKit.icmpNo X2 hx ((teq h52).2) (hb hby at_52) (q := 55) rfl ?_
      refine EKit.lload X2 hx rfl (hb hby at_55) (q := 57) rfl ?_
      refine EKit.lload X2 hx rfl (hb hby at_57) (q := 59) rfl ?_
      refine EKit.ladd X2 hx  (hb hby at_59) (q := 60) rfl ?_
      refine EKit.lstore X2 hx (l' := #[.val (.long q0), .second, .val (.long q1), .second, .val (.long q2), .second, .val (.int p3), .val (.long (own_min q0 q1)), .second, .val (.long (own_max q0 q1)), .second, .val (.int (p3 &&& (3 : Int32))), .val (.long (((((p3.toUInt32 >>> ((2 : Int32) &&& 31).toUInt32).toInt32) % (5 : Int32)).toInt64) - (2 : Int64))), .second, .val (.long ((own_max q0 q1) + (((((p3.toUInt32 >>> ((2 : Int32) &&& 31).toUInt32).toInt32) % (5 : Int32)).toInt64) - (2 : Int64)))), .second, .unset, .unset]) rfl (hb hby at_60) (q := 62) rfl ?_
      refine EKit.goto X2 hx (hb hby at_62) (by decide) (q := 69) (by decide) ?_
      exact J69_3 T2 X2 e2 ((own_max q0 q1) + (((((p3.toUInt32 >>> ((2 : Int32) &&& 31).toUInt32).toInt32) % (5 : Int32)).toInt64) - (2 : Int64)))
    · skip
      refine EKit.icmpYes X2 hx ((feq h52).2) (hb hby at_52) (by decide) (q := 65) (by decide) ?_
      refine EKit.lload X2 hx rfl (hb hby at_65) (q := 67) rfl ?_
      refine EKit.lstore X2 hx (l' := #[.val (.long q0), .second, .val (.long q1), .second, .val (.long q2), .second, .val (.int p3), .val (.long (own_min q0 q1)), .second, .val (.long (own_max q0 q1)), .second, .val (.int (p3 &&& (3 : Int32))), .val (.long (((((p3.toUInt32 >>> ((2 : Int32) &&& 31).toUInt32).toInt32) % (5 : Int32)).toInt64) - (2 : Int64))), .second, .val (.long q2), .second, .unset, .unset]) rfl (hb hby at_67) (q := 69) rfl ?_
      exact J69_3 T2 X2 e2 q2
set_option maxRecDepth 65536 in
set_option maxHeartbeats 40000000 in
theorem comes_1 {Post : Tables → Env → Array Value → State → Outcome → State → Prop} (hpost : ∀ tb e args s v u, (limb_1_1.after args s (.returned v) u = true ∧ limb_1_2.after args s (.returned v) u = true ∧ True) → FrameEnd s (.returned v) u (Jvm.fieldLocs frame_1_writes args s ++ Jvm.arrayLocs frame_1_arrays args s ++ Jvm.staticLocs frame_1_statics s) 16 128 → Post tb e args s (.returned v) u) :
    ArmFor flags0 classFile x code maxLocals ret World_1 tables_1 room_1 Calls_1 rest_1 Pre_1 Post := by
  intro l hfl _ _ p e ha hc hk s m args below hf hA hF happ hP
  obtain ⟨hcalls, hrest, hpre⟩ := hP
  obtain ⟨-, -, -, hnamed, -, -, -, hat⟩ := (Spec.applies_iff hf).mp happ
  obtain ⟨hg, hn⟩ := and_e (Cond.before_iff.mp (show (Jvm.Cond.and given_1 narrow_1).before args s = true from hpre))
  obtain ⟨g4, g5⟩ := and_e hg
  obtain ⟨g6, g7⟩ := and_e g5
  obtain ⟨g8, g9⟩ := and_e g7
  obtain ⟨g10, g11⟩ := and_e g9
  obtain ⟨w0, w1, w2, w3, rfl⟩ : ∃ w0 w1 w2 w3 : Value, args = #[w0, w1, w2, w3] := by
    have hs : args.size = 4 := by simpa [Cond.value, given_1] using g4
    obtain ⟨L⟩ := args
    match L, hs with
    | [w0, w1, w2, w3], _ => exact ⟨w0, w1, w2, w3, rfl⟩
  have hw := fun d (hd : d ∈ tables_1) => atoms_spec (ws := Jvm.Cond.code x code maxLocals ret :: tables_1) hat d (List.mem_cons_of_mem _ hd)
  obtain ⟨i0, ei0⟩ := isL_v g6
  obtain rfl : w0 = (.long i0) := Option.some.inj ei0
  obtain ⟨i1, ei1⟩ := isL_v g8
  obtain rfl : w1 = (.long i1) := Option.some.inj ei1
  obtain ⟨i2, ei2⟩ := isL_v g10
  obtain rfl : w2 = (.long i2) := Option.some.inj ei2
  obtain ⟨i3, ei3⟩ := is_v g11
  obtain rfl : w3 = (.int i3) := Option.some.inj ei3
  obtain ⟨n, o, h1, h2, h3, _, L, rfl, ⟨rfl, N⟩, hq⟩ := rm0 l s _ hw tables_1 i0 i1 i2 i3 s.heap  p e ha hc hk s m _ below hf ((Spec.applies_iff_loose hf).mp happ).1 ⟨rfl, State.Warmed39.refl s, rfl⟩ trivial
  refine ⟨n, _, h1, h2, h3, hpost _ _ _ _ _ _ ⟨Cond.after_iff.mpr rfl, Cond.after_iff.mpr (eq_i res_at (Term.int_eval (1)) rfl), trivial⟩ ⟨hq.1, hq.2.1, (hq.2.2.sift fun y hy => Or.inr (N y hy)).mono (by decide) (by decide)⟩⟩
theorem main_1_1 : Claimed_1_1 := comes_1 fun _ _ _ _ _ _ h hF => ⟨h.1, hF⟩
theorem main_1_2 : Claimed_1_2 := comes_1 fun _ _ _ _ _ _ h hF => ⟨h.2.1, hF⟩
end Jvm.Pilot.@@N@@
namespace Jvm.Pilot.@@N@@
open Jvm Jvm.ClassFile Sem Op Lib Jvm.Free Jvm.Stand Jvm.Pilot.@@N@@.Jvm.D
/-! MADE BY PROGRAM (witnessworld.py) out of the Statement's table words and the real class files: 10 classes; the members and pool entries that the words name. The judged class is class 1, her method 2. -/
namespace start1
open Jvm.ClassFile
def u (s : String) : CpInfo := .utf8 (stringToUtf16 s)
/-- a pool by its gaps: so many unusable entries, then the entry; so many at the end -/
def gap : Nat → List CpInfo → List CpInfo
  | 0, r => r
  | n + 1, r => .unusable :: gap n r
def poolList (es : List (Nat × CpInfo)) (last : Nat) : List CpInfo := es.foldr (fun e r => gap e.1 (e.2 :: r)) (gap last [])
def pool (es : List (Nat × CpInfo)) (last : Nat) : Array CpInfo := ⟨poolList es last⟩
def fileOf (pool : Array CpInfo) (this : Nat) (attrs : Array Attribute := #[]) (ms : Array MethodInfo := #[]) (fl : Nat := 33) (sup : Nat := 0) (ifs : Array Nat := #[]) (fds : Array FieldInfo := #[]) : ClassFile where
  minorVersion := 0
  majorVersion := 65
  constantPool := pool
  accessFlags := fl
  thisClass := this
  superClass := sup
  interfaces := ifs
  fields := fds
  methods := ms
  attributes := attrs
def plain (name : String) (sup : Option ClassId) : Class where
  name := name
  kind := .ordinary
  loader := none
  accessFlags := 33
  super := sup
  interfaces := #[]
  cf := none
  fields := #[]
  methods := #[]
  instanceTypes := #[]
  staticTypes := #[]
  resolved := #[]
  callSites := []
  init := .initialized
  statics := none
  mirror := none

def pool0 : Array CpInfo := pool [(5, u "<init>"), (0, u "()V"), (1, .class_ 10), (1, u "java/lang/Object")] 113

def k0c0 : Code := { maxStack := 0, maxLocals := 1, code := object_method_1_code, exceptionTable := #[], attributes := #[] }
def k0m0 : Method := { name := "<init>", desc := "()V", sig := { parameters := [], returnType := none }, accessFlags := 1, code := some k0c0 }
/-- java/lang/Object -/
def k0 : Class := { plain "java/lang/Object" none with
  accessFlags := 33
  interfaces := #[]
  cf := some (fileOf pool0 8 #[] #[{ accessFlags := 1, nameIndex := 5, descriptorIndex := 6, attributes := #[] }] 33 0 #[] #[])
  fields := #[]
  methods := #[k0m0]
  instanceTypes := #[]
  staticTypes := #[]
  resolved := Array.replicate 124 none
  statics := none }

def pool1 : Array CpInfo := pool [(2, .class_ 4), (1, u "java/lang/Object"), (0, u "<init>"), (0, u "()V"), (0, .long 9223372036854775808), (1, .methodref 10 11), (0, .class_ 12), (0, .nameAndType 13 14), (0, u "java/lang/Math"), (0, u "min"), (0, u "(JJ)J"), (0, .methodref 10 16), (0, .nameAndType 17 14), (0, u "max"), (0, .long 2), (1, .methodref 21 22), (0, .class_ 23), (0, .nameAndType 24 25), (0, u "com/example/ratify/ratify/format/WholeNumbersHoldsPinLaw"), (0, u "unsignedAtMost"), (0, u "(JJ)Z"), (0, .class_ 27), (0, u "com/example/ratify/ratify/format/WholeNumbers"), (0, .methodref 26 29), (0, .nameAndType 5 30), (0, u "(JJ)V"), (0, .methodref 26 32), (0, .nameAndType 33 34), (0, u "holds"), (0, u "(J)Z"), (3, u "law"), (0, u "(JJJI)Z")] 2

def k1m0 : Method := { name := "<init>", desc := "()V", sig := { parameters := [], returnType := none }, accessFlags := 1, code := none }
def k1c1 : Code := { maxStack := 6, maxLocals := 4, code := method_2_code, exceptionTable := #[], attributes := #[] }
def k1m1 : Method := { name := "unsignedAtMost", desc := "(JJ)Z", sig := { parameters := [.long, .long], returnType := some .boolean }, accessFlags := 10, code := some k1c1 }
def k1c2 : Code := { maxStack := 6, maxLocals := 18, code := code, exceptionTable := #[], attributes := #[] }
def k1m2 : Method := { name := "law", desc := "(JJJI)Z", sig := { parameters := [.long, .long, .long, .int], returnType := some .boolean }, accessFlags := 9, code := some k1c2 }
/-- com/example/ratify/ratify/format/WholeNumbersHoldsPinLaw -/
def k1 : Class := { plain "com/example/ratify/ratify/format/WholeNumbersHoldsPinLaw" (some 0) with
  accessFlags := 49
  interfaces := #[]
  cf := some (fileOf pool1 21 #[] #[{ accessFlags := 1, nameIndex := 5, descriptorIndex := 6, attributes := #[] }, { accessFlags := 10, nameIndex := 24, descriptorIndex := 25, attributes := #[] }, { accessFlags := 9, nameIndex := 38, descriptorIndex := 39, attributes := #[] }] 49 2 #[] #[])
  fields := #[]
  methods := #[k1m0, k1m1, k1m2]
  instanceTypes := #[]
  staticTypes := #[]
  resolved := Array.replicate 42 none
  statics := none }

def pool2 : Array CpInfo := pool [(1, .class_ 2), (0, u "java/lang/Math"), (1, .class_ 6), (1, u "java/lang/Object"), (0, u "<init>"), (0, u "()V"), (89, .class_ 100), (1, u "java/lang/Math$RandomNumberGeneratorHolder"), (20, u "(JJ)J"), (50, u "negativeZeroFloatBits"), (0, u "J"), (2, u "negativeZeroDoubleBits"), (21, u "max"), (2, u "min"), (43, u "$assertionsDisabled"), (0, u "Z"), (91, u "twoToTheDoubleScaleDown"), (0, u "D"), (4, u "twoToTheDoubleScaleUp"), (9, u "E"), (3, u "PI"), (2, u "TAU"), (2, u "DEGREES_TO_RADIANS"), (0, u "RADIANS_TO_DEGREES")] 94

def k2m0 : Method := { name := "<init>", desc := "()V", sig := { parameters := [], returnType := none }, accessFlags := 2, code := none }
def k2c1 : Code := { maxStack := 4, maxLocals := 4, code := jdk_29_method_66_code, exceptionTable := #[], attributes := #[] }
def k2m1 : Method := { name := "max", desc := "(JJ)J", sig := { parameters := [.long, .long], returnType := some .long }, accessFlags := 9, code := some k2c1 }
def k2c2 : Code := { maxStack := 4, maxLocals := 4, code := jdk_29_method_70_code, exceptionTable := #[], attributes := #[] }
def k2m2 : Method := { name := "min", desc := "(JJ)J", sig := { parameters := [.long, .long], returnType := some .long }, accessFlags := 9, code := some k2c2 }
/-- java/lang/Math -/
def k2 : Class := { plain "java/lang/Math" (some 0) with
  accessFlags := 49
  interfaces := #[]
  cf := some (fileOf pool2 1 #[.nestMembers #[98]] #[{ accessFlags := 2, nameIndex := 7, descriptorIndex := 8, attributes := #[] }, { accessFlags := 9, nameIndex := 198, descriptorIndex := 121, attributes := #[] }, { accessFlags := 9, nameIndex := 201, descriptorIndex := 121, attributes := #[] }] 49 4 #[] #[{ accessFlags := 25, nameIndex := 354, descriptorIndex := 339, attributes := #[] }, { accessFlags := 25, nameIndex := 358, descriptorIndex := 339, attributes := #[] }, { accessFlags := 25, nameIndex := 361, descriptorIndex := 339, attributes := #[] }, { accessFlags := 26, nameIndex := 364, descriptorIndex := 339, attributes := #[] }, { accessFlags := 26, nameIndex := 365, descriptorIndex := 339, attributes := #[] }, { accessFlags := 26, nameIndex := 172, descriptorIndex := 173, attributes := #[] }, { accessFlags := 26, nameIndex := 176, descriptorIndex := 173, attributes := #[] }, { accessFlags := 8, nameIndex := 344, descriptorIndex := 339, attributes := #[] }, { accessFlags := 8, nameIndex := 338, descriptorIndex := 339, attributes := #[] }, { accessFlags := 4120, nameIndex := 245, descriptorIndex := 246, attributes := #[] }])
  fields := #[{ name := "E", type := .double, accessFlags := 25, slot := 0, constantValue := 0 }, { name := "PI", type := .double, accessFlags := 25, slot := 1, constantValue := 0 }, { name := "TAU", type := .double, accessFlags := 25, slot := 2, constantValue := 0 }, { name := "DEGREES_TO_RADIANS", type := .double, accessFlags := 26, slot := 3, constantValue := 0 }, { name := "RADIANS_TO_DEGREES", type := .double, accessFlags := 26, slot := 4, constantValue := 0 }, { name := "negativeZeroFloatBits", type := .long, accessFlags := 26, slot := 5, constantValue := 0 }, { name := "negativeZeroDoubleBits", type := .long, accessFlags := 26, slot := 6, constantValue := 0 }, { name := "twoToTheDoubleScaleUp", type := .double, accessFlags := 8, slot := 7, constantValue := 0 }, { name := "twoToTheDoubleScaleDown", type := .double, accessFlags := 8, slot := 8, constantValue := 0 }, { name := "$assertionsDisabled", type := .boolean, accessFlags := 4120, slot := 9, constantValue := 0 }]
  methods := #[k2m0, k2m1, k2m2]
  instanceTypes := #[]
  staticTypes := #[.double, .double, .double, .double, .double, .long, .long, .double, .double, .boolean]
  resolved := Array.replicate 460 none
  statics := none }

def pool3 : Array CpInfo := pool [(1, .methodref 2 3), (0, .class_ 4), (0, .nameAndType 5 6), (0, u "java/lang/Object"), (0, u "<init>"), (0, u "()V"), (9, .fieldref 17 18), (0, .class_ 19), (0, .nameAndType 20 21), (0, u "com/example/ratify/ratify/format/WholeNumbers"), (0, u "least"), (0, u "J"), (0, .fieldref 17 23), (0, .nameAndType 24 21), (0, u "greatest"), (6, u "(JJ)V"), (10, u "holds"), (0, u "(J)Z"), (37, u "LONGS"), (0, u "Lcom/example/ratify/ratify/format/WholeNumbers;")] 30

def k3c0 : Code := { maxStack := 6, maxLocals := 5, code := prog_53_method_1_code, exceptionTable := #[], attributes := #[] }
def k3m0 : Method := { name := "<init>", desc := "(JJ)V", sig := { parameters := [.long, .long], returnType := none }, accessFlags := 1, code := some k3c0 }
def k3c1 : Code := { maxStack := 4, maxLocals := 3, code := prog_53_method_3_code, exceptionTable := #[], attributes := #[] }
def k3m1 : Method := { name := "holds", desc := "(J)Z", sig := { parameters := [.long], returnType := some .boolean }, accessFlags := 1, code := some k3c1 }
/-- com/example/ratify/ratify/format/WholeNumbers -/
def k3 : Class := { plain "com/example/ratify/ratify/format/WholeNumbers" (some 0) with
  accessFlags := 49
  interfaces := #[]
  cf := some (fileOf pool3 17 #[] #[{ accessFlags := 1, nameIndex := 5, descriptorIndex := 31, attributes := #[] }, { accessFlags := 1, nameIndex := 42, descriptorIndex := 43, attributes := #[] }] 49 2 #[] #[{ accessFlags := 25, nameIndex := 81, descriptorIndex := 82, attributes := #[] }, { accessFlags := 18, nameIndex := 20, descriptorIndex := 21, attributes := #[] }, { accessFlags := 18, nameIndex := 24, descriptorIndex := 21, attributes := #[] }])
  fields := #[{ name := "LONGS", type := (.object "com/example/ratify/ratify/format/WholeNumbers"), accessFlags := 25, slot := 0, constantValue := 0 }, { name := "least", type := .long, accessFlags := 18, slot := 0, constantValue := 0 }, { name := "greatest", type := .long, accessFlags := 18, slot := 1, constantValue := 0 }]
  methods := #[k3m0, k3m1]
  instanceTypes := #[.long, .long]
  staticTypes := #[(.object "com/example/ratify/ratify/format/WholeNumbers")]
  resolved := Array.replicate 113 none
  statics := none }

def pool4 : Array CpInfo := pool [(1, u "java/lang/Cloneable"), (0, .class_ 1), (0, u "java/lang/Object"), (0, .class_ 3)] 3

/-- java/lang/Cloneable -/
def k4 : Class := { plain "java/lang/Cloneable" (some 0) with
  accessFlags := 1537
  interfaces := #[]
  cf := some (fileOf pool4 2 #[] #[] 1537 4 #[] #[])
  fields := #[]
  methods := #[]
  instanceTypes := #[]
  staticTypes := #[]
  resolved := Array.replicate 8 none
  statics := none }

def pool5 : Array CpInfo := pool [(1, u "java/io/Serializable"), (0, .class_ 1), (0, u "java/lang/Object"), (0, .class_ 3)] 3

/-- java/io/Serializable -/
def k5 : Class := { plain "java/io/Serializable" (some 0) with
  accessFlags := 1537
  interfaces := #[]
  cf := some (fileOf pool5 2 #[] #[] 1537 4 #[] #[])
  fields := #[]
  methods := #[]
  instanceTypes := #[]
  staticTypes := #[]
  resolved := Array.replicate 8 none
  statics := none }

/-- the primitive byte -/
def k6 : Class := { plain "byte" none with kind := .primitive 'B', accessFlags := 0x411 }
/-- [B -/
def k7 : Class := { plain "[B" (some 0) with kind := .array 6 .byte, interfaces := #[4, 5], accessFlags := 1041 }

/-- the primitive int -/
def k8 : Class := { plain "int" none with kind := .primitive 'I', accessFlags := 0x411 }
/-- [I -/
def k9 : Class := { plain "[I" (some 0) with kind := .array 8 .int, interfaces := #[4, 5], accessFlags := 1041 }

def heap : Heap := #[]
def classes : Array Class := #[k0, k1, k2, k3, k4, k5, k6, k7, k8, k9]
def interned : List (Array UInt16 × Addr) := []
def slotsUsed : Nat := 0
def theMethod : MethodId := ⟨1, 2⟩
def args0 : Array Value := #[.long 5, .long 9, .long 3, .int 6]
def aboutOver (below : List Frame) : State where
  vm := { classes := classes, interned := interned.toArray }
  heap := heap
  slotsUsed := slotsUsed
  threads := #[{ frames := .invoking theMethod args0 :: below }]
def below0 : List Frame := [.native { method := ⟨0, 0⟩, args := #[] }]
def about1 : State := aboutOver below0
def p0 : Program := .bare "" "" ""
def e0 : Env := launch0.env 0 0 0
theorem w_frames : about1.frames = Frame.invoking theMethod args0 :: below0 := rfl
set_option maxRecDepth 65536 in
theorem w_args : argsFit about1.vm theMethod args0 = true := by decide +kernel
set_option maxRecDepth 65536 in
theorem w_heap : heapFits about1 = true := by decide +kernel
set_option maxRecDepth 65536 in
theorem w_runnable : about1.curStatus? = some .runnable := by decide +kernel
set_option maxRecDepth 65536 in
theorem w_alone : about1.alone = true := by decide +kernel
set_option maxRecDepth 65536 in
theorem w_named : about1.methodNamed? x = some theMethod := by decide +kernel
set_option maxRecDepth 65536 in
theorem w_hears : about1.hears theMethod below0 = true := by decide +kernel
set_option maxRecDepth 65536 in
theorem w_ripe : about1.ripe theMethod args0 below0 = true := by decide +kernel
theorem w_running : about1.status = .running := rfl
set_option maxRecDepth 65536 in
theorem w_room : about1.hasRoom e0.platform room_1 = true :=
  launch0.hasRoom_least _ room_1 (by decide +kernel) (by decide +kernel) (by decide +kernel) (by decide +kernel) (by decide +kernel) (by decide +kernel)
theorem allAtoms_all (ts : List Jvm.Cond) (a : Array Jvm.Value) (st : Jvm.State) : (allAtoms ts).before a st = ts.all (fun c => c.before a st) := by
  induction ts with
  | nil => rfl
  | cons c t ih =>
    show (Jvm.Cond.and c (allAtoms t)).before a st = _
    rw [Jvm.Cond.before_and, ih, List.all_cons]
def words1 : List Jvm.Cond := Jvm.Cond.code x code maxLocals ret :: tables_1
/-- a 'code' word, met by the world's own term for the bytes: nothing is compared byte by byte -/
theorem code_word {y : MethodName} {bytes : ByteArray} {mx : Nat} {rt : Option FieldType} {a : Array Value} {s : State} {m : MethodId} {meth : Method} {c : Code} (h1 : s.methodNamed? y = some m) (h2 : s.vm.method? m = some meth) (h3 : meth.code = some c) (h4 : c.code = bytes)
    (h5 : (c.maxLocals == mx && c.exceptionTable.isEmpty && decide (c.maxStack ≤ mostOperands) && decide (meth.sig.returnType = rt) && !meth.locks && decide (parseMethodDescriptor y.desc = some meth.sig)) = true) : (Jvm.Cond.code y bytes mx rt).before a s = true := by
  simp only [Bool.and_eq_true, beq_iff_eq, Bool.not_eq_true', decide_eq_true_eq] at h5
  obtain ⟨⟨⟨⟨⟨g1, g2⟩, g3⟩, g4⟩, g5⟩, g6⟩ := h5
  simp [Cond.before, Cond.holds, Cond.value, h1, h2, h3, h4, g1, g2, g3, g4, g5, g6]
def isCode : Jvm.Cond → Bool
  | .code _ _ _ _ => true
  | _ => false
theorem all_split {L : List Jvm.Cond} {P : Jvm.Cond → Bool} (h1 : L.all (fun c => isCode c || P c) = true) (h2 : ∀ c ∈ L.filter isCode, P c = true) : L.all P = true := by
  refine List.all_eq_true.mpr fun c hc => ?_
  have h := List.all_eq_true.mp h1 c hc
  rcases Bool.eq_false_or_eq_true (isCode c) with hi | hi
  · exact h2 c (List.mem_filter.mpr ⟨hc, hi⟩)
  · simpa [hi] using h
set_option maxRecDepth 65536 in
theorem w_c0 : (Jvm.Cond.code x code maxLocals ret).before args0 about1 = true := code_word (m := ⟨1, 2⟩) (meth := k1m2) (c := k1c2) (by decide +kernel) rfl rfl rfl (by decide +kernel)
set_option maxRecDepth 65536 in
theorem w_c1 : (Jvm.Cond.code ({ cls := "java/lang/Math", name := "min", desc := "(JJ)J" } : Jvm.MethodName) jdk_29_method_70_code (4 : Nat) (Option.some Jvm.ClassFile.FieldType.long)).before args0 about1 = true := code_word (m := ⟨2, 2⟩) (meth := k2m2) (c := k2c2) (by decide +kernel) rfl rfl rfl (by decide +kernel)
set_option maxRecDepth 65536 in
theorem w_c2 : (Jvm.Cond.code ({ cls := "java/lang/Math", name := "max", desc := "(JJ)J" } : Jvm.MethodName) jdk_29_method_66_code (4 : Nat) (Option.some Jvm.ClassFile.FieldType.long)).before args0 about1 = true := code_word (m := ⟨2, 1⟩) (meth := k2m1) (c := k2c1) (by decide +kernel) rfl rfl rfl (by decide +kernel)
set_option maxRecDepth 65536 in
theorem w_c3 : (Jvm.Cond.code ({ cls := "com/example/ratify/ratify/format/WholeNumbersHoldsPinLaw", name := "unsignedAtMost", desc := "(JJ)Z" } : Jvm.MethodName) method_2_code (4 : Nat) (Option.some Jvm.ClassFile.FieldType.boolean)).before args0 about1 = true := code_word (m := ⟨1, 1⟩) (meth := k1m1) (c := k1c1) (by decide +kernel) rfl rfl rfl (by decide +kernel)
set_option maxRecDepth 65536 in
theorem w_c4 : (Jvm.Cond.code ({ cls := "com/example/ratify/ratify/format/WholeNumbers", name := "<init>", desc := "(JJ)V" } : Jvm.MethodName) prog_53_method_1_code (5 : Nat) (Option.none : Option Jvm.ClassFile.FieldType)).before args0 about1 = true := code_word (m := ⟨3, 0⟩) (meth := k3m0) (c := k3c0) (by decide +kernel) rfl rfl rfl (by decide +kernel)
set_option maxRecDepth 65536 in
theorem w_c5 : (Jvm.Cond.code ({ cls := "java/lang/Object", name := "<init>", desc := "()V" } : Jvm.MethodName) object_method_1_code (1 : Nat) (Option.none : Option Jvm.ClassFile.FieldType)).before args0 about1 = true := code_word (m := ⟨0, 0⟩) (meth := k0m0) (c := k0c0) (by decide +kernel) rfl rfl rfl (by decide +kernel)
set_option maxRecDepth 65536 in
theorem w_c6 : (Jvm.Cond.code ({ cls := "com/example/ratify/ratify/format/WholeNumbers", name := "holds", desc := "(J)Z" } : Jvm.MethodName) prog_53_method_3_code (3 : Nat) (Option.some Jvm.ClassFile.FieldType.boolean)).before args0 about1 = true := code_word (m := ⟨3, 1⟩) (meth := k3m1) (c := k3c1) (by decide +kernel) rfl rfl rfl (by decide +kernel)
def codes1 : List Jvm.Cond := [Jvm.Cond.code x code maxLocals ret, Jvm.Cond.code ({ cls := "java/lang/Math", name := "min", desc := "(JJ)J" } : Jvm.MethodName) jdk_29_method_70_code (4 : Nat) (Option.some Jvm.ClassFile.FieldType.long), Jvm.Cond.code ({ cls := "java/lang/Math", name := "max", desc := "(JJ)J" } : Jvm.MethodName) jdk_29_method_66_code (4 : Nat) (Option.some Jvm.ClassFile.FieldType.long), Jvm.Cond.code ({ cls := "com/example/ratify/ratify/format/WholeNumbersHoldsPinLaw", name := "unsignedAtMost", desc := "(JJ)Z" } : Jvm.MethodName) method_2_code (4 : Nat) (Option.some Jvm.ClassFile.FieldType.boolean), Jvm.Cond.code ({ cls := "com/example/ratify/ratify/format/WholeNumbers", name := "<init>", desc := "(JJ)V" } : Jvm.MethodName) prog_53_method_1_code (5 : Nat) (Option.none : Option Jvm.ClassFile.FieldType), Jvm.Cond.code ({ cls := "java/lang/Object", name := "<init>", desc := "()V" } : Jvm.MethodName) object_method_1_code (1 : Nat) (Option.none : Option Jvm.ClassFile.FieldType), Jvm.Cond.code ({ cls := "com/example/ratify/ratify/format/WholeNumbers", name := "holds", desc := "(J)Z" } : Jvm.MethodName) prog_53_method_3_code (3 : Nat) (Option.some Jvm.ClassFile.FieldType.boolean)]
set_option maxRecDepth 65536 in
theorem codes_eq : words1.filter isCode = codes1 := rfl
theorem w_codes : ∀ c ∈ words1.filter isCode, c.before args0 about1 = true := by
  rw [codes_eq]
  intro c hc
  simp only [codes1, List.mem_cons, List.not_mem_nil, or_false] at hc
  rcases hc with rfl | rfl | rfl | rfl | rfl | rfl | rfl
  · exact w_c0
  · exact w_c1
  · exact w_c2
  · exact w_c3
  · exact w_c4
  · exact w_c5
  · exact w_c6
set_option maxRecDepth 65536 in
theorem w_t1 : (words1.take 24).all (fun c => isCode c || c.before args0 about1) = true := by decide +kernel
set_option maxRecDepth 65536 in
theorem w_t2 : (words1.drop 24).all (fun c => isCode c || c.before args0 about1) = true := by decide +kernel
theorem w_tables : (allAtoms (Jvm.Cond.code x code maxLocals ret :: tables_1)).before args0 about1 = true := by
  rw [allAtoms_all]
  show words1.all (fun c => c.before args0 about1) = true
  refine all_split ?_ w_codes
  rw [← List.take_append_drop 24 words1, List.all_append, w_t1, w_t2]
  rfl
set_option maxRecDepth 65536 in
theorem w_case : (Jvm.Cond.and given_1 narrow_1).before args0 about1 = true := by decide +kernel
theorem w_applies : (headSpec (Jvm.Cond.code x code maxLocals ret :: tables_1) room_1).applies x e0.platform about1 = true :=
  (Spec.applies_iff w_frames).mpr ⟨w_running, w_runnable, w_alone, w_named, w_hears, w_ripe, w_room, w_tables⟩
theorem atStart : AtStart classFile x code maxLocals ret World_1 tables_1 room_1 Calls_1 rest_1 Pre_1 launch0 p0 e0 about1 theMethod args0 below0 :=
  ⟨lists_1, trivial, launch0.admits_env _ _ _, launch0.least_env, fairChoices_fair.cas, fairChoices_fair.clock, w_frames, w_args, w_heap, w_applies, trivial, trivial, w_case⟩
end start1
theorem witness_1 : WitnessClaimed_1 := ⟨start1.p0, start1.e0, start1.about1, start1.theMethod, start1.args0, start1.below0, start1.atStart⟩
end Jvm.Pilot.@@N@@
