import JvmDerived
import JvmDerived.Pilot.@@N@@Statement
import JvmDerived.Pilot.@@N@@Code
set_option linter.unusedVariables false
set_option linter.unusedSimpArgs false
namespace Jvm.EKit
open Sem ClassFile Op Lib Jvm.Stand Jvm.Free Jvm.LawKit Jvm.RoadKit
/-- from the frame F at T the body comes to a return that answers Q -/
def Ends (p : Program) (l : Launch) (e : Env) (R : Room) (s : State) (m : MethodId) (args : Array Value) (below : List Frame) (meth : Method) (c : Code) (C S : Nat) (Q : Option Value → Heap → List Loc → Prop) (T : State) (F : JFrame) : Prop :=
  ∃ (T' : State) (locs : List Loc) (cells slots : Nat) (v : Option Value), Stand p l e R s m args below meth c T' locs cells slots ∧ Q v T'.heap locs ∧ cells ≤ C ∧ slots ≤ S ∧ (meth.sig.returnType = none → v = none) ∧
    ∀ fs, (∀ (f : JFrame) (acts : List Action), f.method = m → f.locked = none → f.entered = [] → (doReturn e (T'.setTop f) acts v).1 = T'.setFrames fs) → Steps p.tables e below (T.setTop F) (T'.setFrames fs)
/-- the contract of a body -/
def Pays (l : Launch) (Z : State) (y : MethodName) (bytes : ByteArray) (maxL : Nat) (ret : Option FieldType) (ws : List Jvm.Cond) (rm : Room) (as' : Array Value) (h : Heap) (Q : Option Value → Heap → List Loc → Prop) : Prop :=
  MetFree l y (head1 (Jvm.Cond.code y bytes maxL ret :: ws) rm) (fun a U => a = as' ∧ Z.Warmed39 U.vm ∧ U.heap = h) (fun _ _ _ _ _ => True) (fun _ U o U' => ∃ v L, o = .returned v ∧ Q v U'.heap L ∧ FrameEnd U o U' L rm.cells rm.slots)
/-- it returns V and writes nothing -/
def RetQ (V : Option Value) (h : Heap) : Option Value → Heap → List Loc → Prop := fun v h' L => v = V ∧ h' = h ∧ L = []
section
variable {p : Program} {l : Launch} {e : Env} {R : Room} {s : State} {m : MethodId} {args : Array Value} {below : List Frame} {meth : Method} {c : Code} {T : State} {locs : List Loc} {cells slots : Nat} {C S : Nat} {Q : Option Value → Heap → List Loc → Prop} {pc q : Nat} {Ls : Array Slot} {st rest : List Value}
theorem step {T1 : State} {F F1 : JFrame} (h : ∀ t, Steps p.tables e below (T1.setTop F1) t → Steps p.tables e below (T.setTop F) t) (k : Ends p l e R s m args below meth c C S Q T1 F1) : Ends p l e R s m args below meth c C S Q T F := by
  obtain ⟨T', locs, cells, slots, v, h1, h2, h3, h4, h5, h6⟩ := k
  exact ⟨T', locs, cells, slots, v, h1, h2, h3, h4, h5, fun fs hl => h _ (h6 fs hl)⟩
theorem pays {Z : State} {y : MethodName} {bytes : ByteArray} {maxL : Nat} {ret : Option FieldType} {ws : List Jvm.Cond} {rm : Room} {as' : Array Value} {h : Heap} (hpl : plainFor y = true) {F0 : MethodId → JFrame} (hF : ∀ m, entryFrame m as' maxL = F0 m)
    (k : ∀ (p : Program) (e : Env) (s : State) (m : MethodId) (below : List Frame) (meth : Method) (c : Code) (s₁ : State), p.tables.exec = Jvm.exec → c.code = bytes → c.maxLocals = maxL → Z.Warmed39 s.vm → s.vm.findClass y.cls = some m.cls → meth.name = y.name → meth.sig.returnType = ret → Stand p l e rm s m as' below meth c s₁ [] 0 0 → s₁.heap = h → s.heap = h →
      Ends p l e rm s m as' below meth c rm.cells rm.slots Q s₁ (F0 m)) : Pays l Z y bytes maxL ret ws rm as' h Q := by
  refine MetFree.of_bodySF hpl hisR ?_
  intro p e s m args below meth c s₁ Bd hml0 hP hK
  obtain ⟨rfl, hZ, hh⟩ := hP
  obtain ⟨T', locs, cells, slots, v, X, hQ, h3, h4, h5, h6⟩ := k p e s m below meth c s₁ Bd.exec Bd.bytes hml0 hZ (findClass_of_methodNamed Bd.named) (name_of_methodNamed Bd.named Bd.method).1 Bd.returns (Stand.of_body Bd) (by rw [← hh, Bd.state]; rfl) hh
  obtain ⟨fs, hr, hrun, hended, hW, hsame⟩ := X.leave (v := v) h5
  exact ⟨_, _, castTop (hF m) (h6 fs hr), hrun, hended, v, locs, rfl, hQ, ⟨_, rfl⟩, hW, hsame.mono h3 h4⟩
theorem iloadN (X : Stand p l e R s m args below meth c T locs cells slots) (hx : p.tables.exec = Jvm.exec) {k0 : Fin 4} {v : Int32} (hl : Ls[k0.val]? = some (.val (.int v))) (hd : decode c.code pc = .ok (.iload_n k0, 1)) (hq : pc + 1 = q) (k : Ends p l e R s m args below meth c C S Q T (mkF m q Ls (.int v :: st))) : Ends p l e R s m args below meth c C S Q T (mkF m pc Ls (st)) := step (fun _ h => by subst hq; exact XS.iloadN X.here hx rfl hd hl h) k
theorem iload (X : Stand p l e R s m args below meth c T locs cells slots) (hx : p.tables.exec = Jvm.exec) {k0 : Nat} {v : Int32} (hl : Ls[k0]? = some (.val (.int v))) (hd : decode c.code pc = .ok (.iload k0, 2)) (hq : pc + 2 = q) (k : Ends p l e R s m args below meth c C S Q T (mkF m q Ls (.int v :: st))) : Ends p l e R s m args below meth c C S Q T (mkF m pc Ls (st)) := step (fun _ h => by subst hq; exact XS.iload X.here hx rfl hd hl h) k
theorem istoreN (X : Stand p l e R s m args below meth c T locs cells slots) (hx : p.tables.exec = Jvm.exec) {k0 : Fin 4} {v : Int32} {l' : Array Slot} (hl : storeLocals Ls k0.val (.int v) = some l') (hd : decode c.code pc = .ok (.istore_n k0, 1)) (hq : pc + 1 = q) (k : Ends p l e R s m args below meth c C S Q T (mkF m q l' (st))) : Ends p l e R s m args below meth c C S Q T (mkF m pc Ls (.int v :: st)) := step (fun _ h => by subst hq; exact XS.istoreN X.here hx rfl hd rfl hl h) k
theorem istore (X : Stand p l e R s m args below meth c T locs cells slots) (hx : p.tables.exec = Jvm.exec) {k0 : Nat} {v : Int32} {l' : Array Slot} (hl : storeLocals Ls k0 (.int v) = some l') (hd : decode c.code pc = .ok (.istore k0, 2)) (hq : pc + 2 = q) (k : Ends p l e R s m args below meth c C S Q T (mkF m q l' (st))) : Ends p l e R s m args below meth c C S Q T (mkF m pc Ls (.int v :: st)) := step (fun _ h => by subst hq; exact XS.istore X.here hx rfl hd rfl hl h) k
theorem lloadN (X : Stand p l e R s m args below meth c T locs cells slots) (hx : p.tables.exec = Jvm.exec) {k0 : Fin 4} {v : Int64} (hl : Ls[k0.val]? = some (.val (.long v))) (hd : decode c.code pc = .ok (.lload_n k0, 1)) (hq : pc + 1 = q) (k : Ends p l e R s m args below meth c C S Q T (mkF m q Ls (.long v :: st))) : Ends p l e R s m args below meth c C S Q T (mkF m pc Ls (st)) := step (fun _ h => by subst hq; exact XS.lloadN X.here hx rfl hd hl h) k
theorem lload (X : Stand p l e R s m args below meth c T locs cells slots) (hx : p.tables.exec = Jvm.exec) {k0 : Nat} {v : Int64} (hl : Ls[k0]? = some (.val (.long v))) (hd : decode c.code pc = .ok (.lload k0, 2)) (hq : pc + 2 = q) (k : Ends p l e R s m args below meth c C S Q T (mkF m q Ls (.long v :: st))) : Ends p l e R s m args below meth c C S Q T (mkF m pc Ls (st)) := step (fun _ h => by subst hq; exact XS.lload X.here hx rfl hd hl h) k
theorem lstoreN (X : Stand p l e R s m args below meth c T locs cells slots) (hx : p.tables.exec = Jvm.exec) {k0 : Fin 4} {v : Int64} {l' : Array Slot} (hl : storeLocals Ls k0.val (.long v) = some l') (hd : decode c.code pc = .ok (.lstore_n k0, 1)) (hq : pc + 1 = q) (k : Ends p l e R s m args below meth c C S Q T (mkF m q l' (st))) : Ends p l e R s m args below meth c C S Q T (mkF m pc Ls (.long v :: st)) := step (fun _ h => by subst hq; exact XS.lstoreN X.here hx rfl hd rfl hl h) k
theorem lstore (X : Stand p l e R s m args below meth c T locs cells slots) (hx : p.tables.exec = Jvm.exec) {k0 : Nat} {v : Int64} {l' : Array Slot} (hl : storeLocals Ls k0 (.long v) = some l') (hd : decode c.code pc = .ok (.lstore k0, 2)) (hq : pc + 2 = q) (k : Ends p l e R s m args below meth c C S Q T (mkF m q l' (st))) : Ends p l e R s m args below meth c C S Q T (mkF m pc Ls (.long v :: st)) := step (fun _ h => by subst hq; exact XS.lstore X.here hx rfl hd rfl hl h) k
theorem aloadN (X : Stand p l e R s m args below meth c T locs cells slots) (hx : p.tables.exec = Jvm.exec) {k0 : Fin 4} {v : Value} (hl : Ls[k0.val]? = some (.val v)) (hv : v.isRef = true) (hd : decode c.code pc = .ok (.aload_n k0, 1)) (hq : pc + 1 = q) (k : Ends p l e R s m args below meth c C S Q T (mkF m q Ls (v :: st))) : Ends p l e R s m args below meth c C S Q T (mkF m pc Ls (st)) := step (fun _ h => by subst hq; exact XS.aloadN X.here hx rfl hd hl hv h) k
theorem aload (X : Stand p l e R s m args below meth c T locs cells slots) (hx : p.tables.exec = Jvm.exec) {k0 : Nat} {v : Value} (hl : Ls[k0]? = some (.val v)) (hv : v.isRef = true) (hd : decode c.code pc = .ok (.aload k0, 2)) (hq : pc + 2 = q) (k : Ends p l e R s m args below meth c C S Q T (mkF m q Ls (v :: st))) : Ends p l e R s m args below meth c C S Q T (mkF m pc Ls (st)) := step (fun _ h => by subst hq; exact XS.aload X.here hx rfl hd hl hv h) k
theorem astoreN (X : Stand p l e R s m args below meth c T locs cells slots) (hx : p.tables.exec = Jvm.exec) {k0 : Fin 4} {v : Value} {l' : Array Slot} (hv : v.isRef = true) (hl : storeLocals Ls k0.val v = some l') (hd : decode c.code pc = .ok (.astore_n k0, 1)) (hq : pc + 1 = q) (k : Ends p l e R s m args below meth c C S Q T (mkF m q l' (st))) : Ends p l e R s m args below meth c C S Q T (mkF m pc Ls (v :: st)) := step (fun _ h => by subst hq; exact XS.astoreN X.here hx rfl hd rfl hv hl h) k
theorem astore (X : Stand p l e R s m args below meth c T locs cells slots) (hx : p.tables.exec = Jvm.exec) {k0 : Nat} {v : Value} {l' : Array Slot} (hv : v.isRef = true) (hl : storeLocals Ls k0 v = some l') (hd : decode c.code pc = .ok (.astore k0, 2)) (hq : pc + 2 = q) (k : Ends p l e R s m args below meth c C S Q T (mkF m q l' (st))) : Ends p l e R s m args below meth c C S Q T (mkF m pc Ls (v :: st)) := step (fun _ h => by subst hq; exact XS.astore X.here hx rfl hd rfl hv hl h) k
theorem iconst (X : Stand p l e R s m args below meth c T locs cells slots) (hx : p.tables.exec = Jvm.exec) {i : Int} {v : Int32} (hv : Int32.ofInt i = v) (hd : decode c.code pc = .ok (.iconst i, 1)) (hq : pc + 1 = q) (k : Ends p l e R s m args below meth c C S Q T (mkF m q Ls (.int v :: st))) : Ends p l e R s m args below meth c C S Q T (mkF m pc Ls (st)) := step (fun _ h => by subst hq; exact XS.iconst X.here hx rfl hd (by rw [hv]; exact h)) k
theorem bipush (X : Stand p l e R s m args below meth c T locs cells slots) (hx : p.tables.exec = Jvm.exec) {i : Int} {v : Int32} (hv : (Int8.ofInt i).toInt32 = v) (hd : decode c.code pc = .ok (.bipush i, 2)) (hq : pc + 2 = q) (k : Ends p l e R s m args below meth c C S Q T (mkF m q Ls (.int v :: st))) : Ends p l e R s m args below meth c C S Q T (mkF m pc Ls (st)) := step (fun _ h => by subst hq; exact XS.bipush X.here hx rfl hd (by rw [hv]; exact h)) k
theorem sipush (X : Stand p l e R s m args below meth c T locs cells slots) (hx : p.tables.exec = Jvm.exec) {i : Int} {v : Int32} (hv : (Int16.ofInt i).toInt32 = v) (hd : decode c.code pc = .ok (.sipush i, 3)) (hq : pc + 3 = q) (k : Ends p l e R s m args below meth c C S Q T (mkF m q Ls (.int v :: st))) : Ends p l e R s m args below meth c C S Q T (mkF m pc Ls (st)) := step (fun _ h => by subst hq; exact XS.sipush X.here hx rfl hd (by rw [hv]; exact h)) k
theorem lconst (X : Stand p l e R s m args below meth c T locs cells slots) (hx : p.tables.exec = Jvm.exec) {i : Fin 2} {v : Int64} (hv : Int64.ofNat i = v) (hd : decode c.code pc = .ok (.lconst i, 1)) (hq : pc + 1 = q) (k : Ends p l e R s m args below meth c C S Q T (mkF m q Ls (.long v :: st))) : Ends p l e R s m args below meth c C S Q T (mkF m pc Ls (st)) := step (fun _ h => by subst hq; exact XS.lconst X.here hx rfl hd (by rw [hv]; exact h)) k
theorem aconstNull (X : Stand p l e R s m args below meth c T locs cells slots) (hx : p.tables.exec = Jvm.exec)  (hd : decode c.code pc = .ok (.aconst_null, 1)) (hq : pc + 1 = q) (k : Ends p l e R s m args below meth c C S Q T (mkF m q Ls (.null :: st))) : Ends p l e R s m args below meth c C S Q T (mkF m pc Ls (st)) := step (fun _ h => by subst hq; exact XS.aconstNull X.here hx rfl hd h) k
theorem iadd (X : Stand p l e R s m args below meth c T locs cells slots) (hx : p.tables.exec = Jvm.exec) {x y : Int32} (hd : decode c.code pc = .ok (.iadd, 1)) (hq : pc + 1 = q) (k : Ends p l e R s m args below meth c C S Q T (mkF m q Ls (.int (x + y) :: st))) : Ends p l e R s m args below meth c C S Q T (mkF m pc Ls (.int y :: .int x :: st)) := step (fun _ h => by subst hq; exact XS.iadd X.here hx rfl hd rfl h) k
theorem isub (X : Stand p l e R s m args below meth c T locs cells slots) (hx : p.tables.exec = Jvm.exec) {x y : Int32} (hd : decode c.code pc = .ok (.isub, 1)) (hq : pc + 1 = q) (k : Ends p l e R s m args below meth c C S Q T (mkF m q Ls (.int (x - y) :: st))) : Ends p l e R s m args below meth c C S Q T (mkF m pc Ls (.int y :: .int x :: st)) := step (fun _ h => by subst hq; exact XS.isub X.here hx rfl hd rfl h) k
theorem imul (X : Stand p l e R s m args below meth c T locs cells slots) (hx : p.tables.exec = Jvm.exec) {x y : Int32} (hd : decode c.code pc = .ok (.imul, 1)) (hq : pc + 1 = q) (k : Ends p l e R s m args below meth c C S Q T (mkF m q Ls (.int (x * y) :: st))) : Ends p l e R s m args below meth c C S Q T (mkF m pc Ls (.int y :: .int x :: st)) := step (fun _ h => by subst hq; exact XS.imul X.here hx rfl hd rfl h) k
theorem iand (X : Stand p l e R s m args below meth c T locs cells slots) (hx : p.tables.exec = Jvm.exec) {x y : Int32} (hd : decode c.code pc = .ok (.iand, 1)) (hq : pc + 1 = q) (k : Ends p l e R s m args below meth c C S Q T (mkF m q Ls (.int (x &&& y) :: st))) : Ends p l e R s m args below meth c C S Q T (mkF m pc Ls (.int y :: .int x :: st)) := step (fun _ h => by subst hq; exact XS.iand X.here hx rfl hd rfl h) k
theorem ior (X : Stand p l e R s m args below meth c T locs cells slots) (hx : p.tables.exec = Jvm.exec) {x y : Int32} (hd : decode c.code pc = .ok (.ior, 1)) (hq : pc + 1 = q) (k : Ends p l e R s m args below meth c C S Q T (mkF m q Ls (.int (x ||| y) :: st))) : Ends p l e R s m args below meth c C S Q T (mkF m pc Ls (.int y :: .int x :: st)) := step (fun _ h => by subst hq; exact XS.ior X.here hx rfl hd rfl h) k
theorem ixor (X : Stand p l e R s m args below meth c T locs cells slots) (hx : p.tables.exec = Jvm.exec) {x y : Int32} (hd : decode c.code pc = .ok (.ixor, 1)) (hq : pc + 1 = q) (k : Ends p l e R s m args below meth c C S Q T (mkF m q Ls (.int (x ^^^ y) :: st))) : Ends p l e R s m args below meth c C S Q T (mkF m pc Ls (.int y :: .int x :: st)) := step (fun _ h => by subst hq; exact XS.ixor X.here hx rfl hd rfl h) k
theorem ineg (X : Stand p l e R s m args below meth c T locs cells slots) (hx : p.tables.exec = Jvm.exec) {x : Int32} (hd : decode c.code pc = .ok (.ineg, 1)) (hq : pc + 1 = q) (k : Ends p l e R s m args below meth c C S Q T (mkF m q Ls (.int (-x) :: st))) : Ends p l e R s m args below meth c C S Q T (mkF m pc Ls (.int x :: st)) := step (fun _ h => by subst hq; exact XS.ineg X.here hx rfl hd rfl h) k
theorem idiv (X : Stand p l e R s m args below meth c T locs cells slots) (hx : p.tables.exec = Jvm.exec) {x y : Int32} (hy : y ≠ 0) (hd : decode c.code pc = .ok (.idiv, 1)) (hq : pc + 1 = q) (k : Ends p l e R s m args below meth c C S Q T (mkF m q Ls (.int (x / y) :: st))) : Ends p l e R s m args below meth c C S Q T (mkF m pc Ls (.int y :: .int x :: st)) := step (fun _ h => by subst hq; exact XS.idiv X.here hx rfl hd rfl hy h) k
theorem ladd (X : Stand p l e R s m args below meth c T locs cells slots) (hx : p.tables.exec = Jvm.exec) {x y : Int64} (hd : decode c.code pc = .ok (.ladd, 1)) (hq : pc + 1 = q) (k : Ends p l e R s m args below meth c C S Q T (mkF m q Ls (.long (x + y) :: st))) : Ends p l e R s m args below meth c C S Q T (mkF m pc Ls (.long y :: .long x :: st)) := step (fun _ h => by subst hq; exact XS.ladd X.here hx rfl hd rfl h) k
theorem lsub (X : Stand p l e R s m args below meth c T locs cells slots) (hx : p.tables.exec = Jvm.exec) {x y : Int64} (hd : decode c.code pc = .ok (.lsub, 1)) (hq : pc + 1 = q) (k : Ends p l e R s m args below meth c C S Q T (mkF m q Ls (.long (x - y) :: st))) : Ends p l e R s m args below meth c C S Q T (mkF m pc Ls (.long y :: .long x :: st)) := step (fun _ h => by subst hq; exact XS.lsub X.here hx rfl hd rfl h) k
theorem lmul (X : Stand p l e R s m args below meth c T locs cells slots) (hx : p.tables.exec = Jvm.exec) {x y : Int64} (hd : decode c.code pc = .ok (.lmul, 1)) (hq : pc + 1 = q) (k : Ends p l e R s m args below meth c C S Q T (mkF m q Ls (.long (x * y) :: st))) : Ends p l e R s m args below meth c C S Q T (mkF m pc Ls (.long y :: .long x :: st)) := step (fun _ h => by subst hq; exact XS.lmul X.here hx rfl hd rfl h) k
theorem land (X : Stand p l e R s m args below meth c T locs cells slots) (hx : p.tables.exec = Jvm.exec) {x y : Int64} (hd : decode c.code pc = .ok (.land, 1)) (hq : pc + 1 = q) (k : Ends p l e R s m args below meth c C S Q T (mkF m q Ls (.long (x &&& y) :: st))) : Ends p l e R s m args below meth c C S Q T (mkF m pc Ls (.long y :: .long x :: st)) := step (fun _ h => by subst hq; exact XS.land X.here hx rfl hd rfl h) k
theorem lor (X : Stand p l e R s m args below meth c T locs cells slots) (hx : p.tables.exec = Jvm.exec) {x y : Int64} (hd : decode c.code pc = .ok (.lor, 1)) (hq : pc + 1 = q) (k : Ends p l e R s m args below meth c C S Q T (mkF m q Ls (.long (x ||| y) :: st))) : Ends p l e R s m args below meth c C S Q T (mkF m pc Ls (.long y :: .long x :: st)) := step (fun _ h => by subst hq; exact XS.lor X.here hx rfl hd rfl h) k
theorem lxor (X : Stand p l e R s m args below meth c T locs cells slots) (hx : p.tables.exec = Jvm.exec) {x y : Int64} (hd : decode c.code pc = .ok (.lxor, 1)) (hq : pc + 1 = q) (k : Ends p l e R s m args below meth c C S Q T (mkF m q Ls (.long (x ^^^ y) :: st))) : Ends p l e R s m args below meth c C S Q T (mkF m pc Ls (.long y :: .long x :: st)) := step (fun _ h => by subst hq; exact XS.lxor X.here hx rfl hd rfl h) k
theorem lneg (X : Stand p l e R s m args below meth c T locs cells slots) (hx : p.tables.exec = Jvm.exec) {x : Int64} (hd : decode c.code pc = .ok (.lneg, 1)) (hq : pc + 1 = q) (k : Ends p l e R s m args below meth c C S Q T (mkF m q Ls (.long (-x) :: st))) : Ends p l e R s m args below meth c C S Q T (mkF m pc Ls (.long x :: st)) := step (fun _ h => by subst hq; exact XS.lneg X.here hx rfl hd rfl h) k
theorem ldiv (X : Stand p l e R s m args below meth c T locs cells slots) (hx : p.tables.exec = Jvm.exec) {x y : Int64} (hy : y ≠ 0) (hd : decode c.code pc = .ok (.ldiv, 1)) (hq : pc + 1 = q) (k : Ends p l e R s m args below meth c C S Q T (mkF m q Ls (.long (x / y) :: st))) : Ends p l e R s m args below meth c C S Q T (mkF m pc Ls (.long y :: .long x :: st)) := step (fun _ h => by subst hq; exact XS.ldiv X.here hx rfl hd rfl hy h) k
theorem irem (X : Stand p l e R s m args below meth c T locs cells slots) (hx : p.tables.exec = Jvm.exec) {x y : Int32} (hy : y ≠ 0) (hd : decode c.code pc = .ok (.irem, 1)) (hq : pc + 1 = q) (k : Ends p l e R s m args below meth c C S Q T (mkF m q Ls (.int (x % y) :: st))) : Ends p l e R s m args below meth c C S Q T (mkF m pc Ls (.int y :: .int x :: st)) := step (fun _ h => by subst hq; exact iremM X hx rfl hd rfl hy h) k
theorem lrem (X : Stand p l e R s m args below meth c T locs cells slots) (hx : p.tables.exec = Jvm.exec) {x y : Int64} (hy : y ≠ 0) (hd : decode c.code pc = .ok (.lrem, 1)) (hq : pc + 1 = q) (k : Ends p l e R s m args below meth c C S Q T (mkF m q Ls (.long (x % y) :: st))) : Ends p l e R s m args below meth c C S Q T (mkF m pc Ls (.long y :: .long x :: st)) := step (fun _ h => by subst hq; exact XS.lrem X.here hx rfl hd rfl hy (by rw [lrem_mod]; exact h)) k
theorem ishl (X : Stand p l e R s m args below meth c T locs cells slots) (hx : p.tables.exec = Jvm.exec) {x : Int32} {y : Int32} (hd : decode c.code pc = .ok (.ishl, 1)) (hq : pc + 1 = q) (k : Ends p l e R s m args below meth c C S Q T (mkF m q Ls (.int (x <<< (y &&& 31)) :: st))) : Ends p l e R s m args below meth c C S Q T (mkF m pc Ls (.int y :: .int x :: st)) := step (fun _ h => by subst hq; exact XS.ishl X.here hx rfl hd rfl h) k
theorem ishr (X : Stand p l e R s m args below meth c T locs cells slots) (hx : p.tables.exec = Jvm.exec) {x : Int32} {y : Int32} (hd : decode c.code pc = .ok (.ishr, 1)) (hq : pc + 1 = q) (k : Ends p l e R s m args below meth c C S Q T (mkF m q Ls (.int (x >>> (y &&& 31)) :: st))) : Ends p l e R s m args below meth c C S Q T (mkF m pc Ls (.int y :: .int x :: st)) := step (fun _ h => by subst hq; exact XS.ishr X.here hx rfl hd rfl h) k
theorem iushr (X : Stand p l e R s m args below meth c T locs cells slots) (hx : p.tables.exec = Jvm.exec) {x : Int32} {y : Int32} (hd : decode c.code pc = .ok (.iushr, 1)) (hq : pc + 1 = q) (k : Ends p l e R s m args below meth c C S Q T (mkF m q Ls (.int ((x.toUInt32 >>> (y &&& 31).toUInt32).toInt32) :: st))) : Ends p l e R s m args below meth c C S Q T (mkF m pc Ls (.int y :: .int x :: st)) := step (fun _ h => by subst hq; exact XS.iushr X.here hx rfl hd rfl h) k
theorem lshl (X : Stand p l e R s m args below meth c T locs cells slots) (hx : p.tables.exec = Jvm.exec) {x : Int64} {y : Int32} (hd : decode c.code pc = .ok (.lshl, 1)) (hq : pc + 1 = q) (k : Ends p l e R s m args below meth c C S Q T (mkF m q Ls (.long (x <<< (y &&& 0x3f).toInt64) :: st))) : Ends p l e R s m args below meth c C S Q T (mkF m pc Ls (.int y :: .long x :: st)) := step (fun _ h => by subst hq; exact XS.lshl X.here hx rfl hd rfl h) k
theorem lshr (X : Stand p l e R s m args below meth c T locs cells slots) (hx : p.tables.exec = Jvm.exec) {x : Int64} {y : Int32} (hd : decode c.code pc = .ok (.lshr, 1)) (hq : pc + 1 = q) (k : Ends p l e R s m args below meth c C S Q T (mkF m q Ls (.long (x >>> (y &&& 0x3f).toInt64) :: st))) : Ends p l e R s m args below meth c C S Q T (mkF m pc Ls (.int y :: .long x :: st)) := step (fun _ h => by subst hq; exact XS.lshr X.here hx rfl hd rfl h) k
theorem lushr (X : Stand p l e R s m args below meth c T locs cells slots) (hx : p.tables.exec = Jvm.exec) {x : Int64} {y : Int32} (hd : decode c.code pc = .ok (.lushr, 1)) (hq : pc + 1 = q) (k : Ends p l e R s m args below meth c C S Q T (mkF m q Ls (.long ((x.toUInt64 >>> (y &&& 0x3f).toInt64.toUInt64).toInt64) :: st))) : Ends p l e R s m args below meth c C S Q T (mkF m pc Ls (.int y :: .long x :: st)) := step (fun _ h => by subst hq; exact XS.lushr X.here hx rfl hd rfl h) k
theorem i2l (X : Stand p l e R s m args below meth c T locs cells slots) (hx : p.tables.exec = Jvm.exec) {x : Int32} (hd : decode c.code pc = .ok (.i2l, 1)) (hq : pc + 1 = q) (k : Ends p l e R s m args below meth c C S Q T (mkF m q Ls (.long (x.toInt64) :: st))) : Ends p l e R s m args below meth c C S Q T (mkF m pc Ls (.int x :: st)) := step (fun _ h => by subst hq; exact XS.i2l X.here hx rfl hd rfl h) k
theorem l2i (X : Stand p l e R s m args below meth c T locs cells slots) (hx : p.tables.exec = Jvm.exec) {x : Int64} (hd : decode c.code pc = .ok (.l2i, 1)) (hq : pc + 1 = q) (k : Ends p l e R s m args below meth c C S Q T (mkF m q Ls (.int (x.toInt32) :: st))) : Ends p l e R s m args below meth c C S Q T (mkF m pc Ls (.long x :: st)) := step (fun _ h => by subst hq; exact XS.l2i X.here hx rfl hd rfl h) k
theorem i2b (X : Stand p l e R s m args below meth c T locs cells slots) (hx : p.tables.exec = Jvm.exec) {x : Int32} (hd : decode c.code pc = .ok (.i2b, 1)) (hq : pc + 1 = q) (k : Ends p l e R s m args below meth c C S Q T (mkF m q Ls (.int (x.toInt8.toInt32) :: st))) : Ends p l e R s m args below meth c C S Q T (mkF m pc Ls (.int x :: st)) := step (fun _ h => by subst hq; exact XS.i2b X.here hx rfl hd rfl h) k
theorem i2s (X : Stand p l e R s m args below meth c T locs cells slots) (hx : p.tables.exec = Jvm.exec) {x : Int32} (hd : decode c.code pc = .ok (.i2s, 1)) (hq : pc + 1 = q) (k : Ends p l e R s m args below meth c C S Q T (mkF m q Ls (.int (x.toInt16.toInt32) :: st))) : Ends p l e R s m args below meth c C S Q T (mkF m pc Ls (.int x :: st)) := step (fun _ h => by subst hq; exact XS.i2s X.here hx rfl hd rfl h) k
theorem i2c (X : Stand p l e R s m args below meth c T locs cells slots) (hx : p.tables.exec = Jvm.exec) {x : Int32} (hd : decode c.code pc = .ok (.i2c, 1)) (hq : pc + 1 = q) (k : Ends p l e R s m args below meth c C S Q T (mkF m q Ls (.int (x.toUInt32.toUInt16.toUInt32.toInt32) :: st))) : Ends p l e R s m args below meth c C S Q T (mkF m pc Ls (.int x :: st)) := step (fun _ h => by subst hq; exact XS.i2c X.here hx rfl hd rfl h) k
theorem lcmp (X : Stand p l e R s m args below meth c T locs cells slots) (hx : p.tables.exec = Jvm.exec) {x y : Int64} (hd : decode c.code pc = .ok (.lcmp, 1)) (hq : pc + 1 = q) (k : Ends p l e R s m args below meth c C S Q T (mkF m q Ls (.int (lcmpW x y) :: st))) : Ends p l e R s m args below meth c C S Q T (mkF m pc Ls (.long y :: .long x :: st)) := step (fun _ h => by subst hq; exact XS.lcmp X.here hx rfl hd rfl h) k
theorem dup (X : Stand p l e R s m args below meth c T locs cells slots) (hx : p.tables.exec = Jvm.exec) {v : Value} (hc : v.category = 1) (hd : decode c.code pc = .ok (.dup, 1)) (hq : pc + 1 = q) (k : Ends p l e R s m args below meth c C S Q T (mkF m q Ls (v :: v :: st))) : Ends p l e R s m args below meth c C S Q T (mkF m pc Ls (v :: st)) := step (fun _ h => by subst hq; exact XS.dup X.here hx rfl hd rfl hc h) k
theorem pop (X : Stand p l e R s m args below meth c T locs cells slots) (hx : p.tables.exec = Jvm.exec) {v : Value} (hc : v.category = 1) (hd : decode c.code pc = .ok (.pop, 1)) (hq : pc + 1 = q) (k : Ends p l e R s m args below meth c C S Q T (mkF m q Ls (st))) : Ends p l e R s m args below meth c C S Q T (mkF m pc Ls (v :: st)) := step (fun _ h => by subst hq; exact XS.pop X.here hx rfl hd rfl hc h) k
theorem iinc (X : Stand p l e R s m args below meth c T locs cells slots) (hx : p.tables.exec = Jvm.exec) {k0 : Nat} {cst : Int} {x v : Int32} {l' : Array Slot} (hl : Ls[k0]? = some (.val (.int x))) (hv : x + Int32.ofInt cst = v) (hl' : storeLocals Ls k0 (.int v) = some l') (hd : decode c.code pc = .ok (.iinc k0 cst, 3)) (hq : pc + 3 = q) (k : Ends p l e R s m args below meth c C S Q T (mkF m q l' (st))) : Ends p l e R s m args below meth c C S Q T (mkF m pc Ls (st)) := step (fun _ h => by subst hq; exact XS.iinc X.here hx rfl hd hl (by rw [hv]; exact hl') h) k
theorem goto (X : Stand p l e R s m args below meth c T locs cells slots) (hx : p.tables.exec = Jvm.exec) {o : Int}  (hd : decode c.code pc = .ok (.goto o, 3)) (ho : 0 ≤ (pc : Int) + o) (hq : ((pc : Int) + o).toNat = q) (k : Ends p l e R s m args below meth c C S Q T (mkF m q Ls (st))) : Ends p l e R s m args below meth c C S Q T (mkF m pc Ls (st)) := step (fun _ h => XS.goto X.here hx rfl rfl hd ho hq h) k
theorem ifYes (X : Stand p l e R s m args below meth c T locs cells slots) (hx : p.tables.exec = Jvm.exec) {o : Int} {cd : ClassFile.Cond} {x : Int32} (hc : ifCond.holds cd x = true) (hd : decode c.code pc = .ok (.ifCond cd o, 3)) (ho : 0 ≤ (pc : Int) + o) (hq : ((pc : Int) + o).toNat = q) (k : Ends p l e R s m args below meth c C S Q T (mkF m q Ls (st))) : Ends p l e R s m args below meth c C S Q T (mkF m pc Ls (.int x :: st)) := step (fun _ h => XS.ifYes X.here hx rfl rfl hd rfl hc ho hq h) k
theorem icmpYes (X : Stand p l e R s m args below meth c T locs cells slots) (hx : p.tables.exec = Jvm.exec) {o : Int} {cd : ClassFile.Cond} {x y : Int32} (hc : if_icmp.holds cd x y = true) (hd : decode c.code pc = .ok (.if_icmp cd o, 3)) (ho : 0 ≤ (pc : Int) + o) (hq : ((pc : Int) + o).toNat = q) (k : Ends p l e R s m args below meth c C S Q T (mkF m q Ls (st))) : Ends p l e R s m args below meth c C S Q T (mkF m pc Ls (.int y :: .int x :: st)) := step (fun _ h => XS.icmpYes X.here hx rfl rfl hd rfl hc ho hq h) k
theorem ifnullYes (X : Stand p l e R s m args below meth c T locs cells slots) (hx : p.tables.exec = Jvm.exec) {o : Int}  (hd : decode c.code pc = .ok (.ifnull o, 3)) (ho : 0 ≤ (pc : Int) + o) (hq : ((pc : Int) + o).toNat = q) (k : Ends p l e R s m args below meth c C S Q T (mkF m q Ls (st))) : Ends p l e R s m args below meth c C S Q T (mkF m pc Ls (.null :: st)) := step (fun _ h => XS.ifnullYes X.here hx rfl rfl hd rfl ho hq h) k
theorem ifnonnullYes (X : Stand p l e R s m args below meth c T locs cells slots) (hx : p.tables.exec = Jvm.exec) {o : Int} {b : Addr} (hd : decode c.code pc = .ok (.ifnonnull o, 3)) (ho : 0 ≤ (pc : Int) + o) (hq : ((pc : Int) + o).toNat = q) (k : Ends p l e R s m args below meth c C S Q T (mkF m q Ls (st))) : Ends p l e R s m args below meth c C S Q T (mkF m pc Ls (.ref b :: st)) := step (fun _ h => XS.ifnonnullYes X.here hx rfl rfl hd rfl ho hq h) k
theorem ifNo (X : Stand p l e R s m args below meth c T locs cells slots) (hx : p.tables.exec = Jvm.exec) {o : Int} {cd : ClassFile.Cond} {x : Int32} (hc : ifCond.holds cd x = false) (hd : decode c.code pc = .ok (.ifCond cd o, 3)) (hq : pc + 3 = q) (k : Ends p l e R s m args below meth c C S Q T (mkF m q Ls (st))) : Ends p l e R s m args below meth c C S Q T (mkF m pc Ls (.int x :: st)) := step (fun _ h => by subst hq; exact XS.ifNo X.here hx rfl hd rfl hc h) k
theorem icmpNo (X : Stand p l e R s m args below meth c T locs cells slots) (hx : p.tables.exec = Jvm.exec) {o : Int} {cd : ClassFile.Cond} {x y : Int32} (hc : if_icmp.holds cd x y = false) (hd : decode c.code pc = .ok (.if_icmp cd o, 3)) (hq : pc + 3 = q) (k : Ends p l e R s m args below meth c C S Q T (mkF m q Ls (st))) : Ends p l e R s m args below meth c C S Q T (mkF m pc Ls (.int y :: .int x :: st)) := step (fun _ h => by subst hq; exact XS.icmpNo X.here hx rfl hd rfl hc h) k
theorem ifnullNo (X : Stand p l e R s m args below meth c T locs cells slots) (hx : p.tables.exec = Jvm.exec) {o : Int} {b : Addr} (hd : decode c.code pc = .ok (.ifnull o, 3)) (hq : pc + 3 = q) (k : Ends p l e R s m args below meth c C S Q T (mkF m q Ls (st))) : Ends p l e R s m args below meth c C S Q T (mkF m pc Ls (.ref b :: st)) := step (fun _ h => by subst hq; exact XS.ifnullNo X.here hx rfl hd rfl h) k
theorem ifnonnullNo (X : Stand p l e R s m args below meth c T locs cells slots) (hx : p.tables.exec = Jvm.exec) {o : Int} (hd : decode c.code pc = .ok (.ifnonnull o, 3)) (hq : pc + 3 = q) (k : Ends p l e R s m args below meth c C S Q T (mkF m q Ls (st))) : Ends p l e R s m args below meth c C S Q T (mkF m pc Ls (.null :: st)) := step (fun _ h => by subst hq; exact XS.ifnonnullNo X.here hx rfl hd rfl h) k
theorem acmp (X : Stand p l e R s m args below meth c T locs cells slots) (hx : p.tables.exec = Jvm.exec) {o : Int} {cd : ACond} {x y : Value} (h1 : x.isRef = true) (h2 : y.isRef = true) {same : Bool} (hs : decide (x = y) = same) (hd : decode c.code pc = .ok (.if_acmp cd o, 3)) (ho : 0 ≤ (pc : Int) + o) (hq : q = if acV cd same = true then ((pc : Int) + o).toNat else pc + 3) (k : Ends p l e R s m args below meth c C S Q T (mkF m q Ls st)) : Ends p l e R s m args below meth c C S Q T (mkF m pc Ls (y :: x :: st)) := step (fun _ h => Jvm.RoadKit.acmp X hx rfl h1 h2 rfl hd rfl hs ho hq h) k
theorem dloadN (X : Stand p l e R s m args below meth c T locs cells slots) (hx : p.tables.exec = Jvm.exec) {k0 : Fin 4} {v : UInt64} (hl : Ls[k0.val]? = some (.val (.double v))) (hd : decode c.code pc = .ok (.dload_n k0, 1)) (hq : pc + 1 = q) (k : Ends p l e R s m args below meth c C S Q T (mkF m q Ls (.double v :: st))) : Ends p l e R s m args below meth c C S Q T (mkF m pc Ls (st)) := step (fun _ h => by subst hq; exact XS.dloadN X.here hx rfl hd hl h) k
theorem dload (X : Stand p l e R s m args below meth c T locs cells slots) (hx : p.tables.exec = Jvm.exec) {k0 : Nat} {v : UInt64} (hl : Ls[k0]? = some (.val (.double v))) (hd : decode c.code pc = .ok (.dload k0, 2)) (hq : pc + 2 = q) (k : Ends p l e R s m args below meth c C S Q T (mkF m q Ls (.double v :: st))) : Ends p l e R s m args below meth c C S Q T (mkF m pc Ls (st)) := step (fun _ h => by subst hq; exact XS.dload X.here hx rfl hd hl h) k
theorem dstoreN (X : Stand p l e R s m args below meth c T locs cells slots) (hx : p.tables.exec = Jvm.exec) {k0 : Fin 4} {v : UInt64} {l' : Array Slot} (hl : storeLocals Ls k0.val (.double v) = some l') (hd : decode c.code pc = .ok (.dstore_n k0, 1)) (hq : pc + 1 = q) (k : Ends p l e R s m args below meth c C S Q T (mkF m q l' (st))) : Ends p l e R s m args below meth c C S Q T (mkF m pc Ls (.double v :: st)) := step (fun _ h => by subst hq; exact XS.dstoreN X.here hx rfl hd rfl hl h) k
theorem dstore (X : Stand p l e R s m args below meth c T locs cells slots) (hx : p.tables.exec = Jvm.exec) {k0 : Nat} {v : UInt64} {l' : Array Slot} (hl : storeLocals Ls k0 (.double v) = some l') (hd : decode c.code pc = .ok (.dstore k0, 2)) (hq : pc + 2 = q) (k : Ends p l e R s m args below meth c C S Q T (mkF m q l' (st))) : Ends p l e R s m args below meth c C S Q T (mkF m pc Ls (.double v :: st)) := step (fun _ h => by subst hq; exact XS.dstore X.here hx rfl hd rfl hl h) k
theorem i2d (X : Stand p l e R s m args below meth c T locs cells slots) (hx : p.tables.exec = Jvm.exec) {x : Int32} (hd : decode c.code pc = .ok (.i2d, 1)) (hq : pc + 1 = q) (k : Ends p l e R s m args below meth c C S Q T (mkF m q Ls (.double (FP.i2d x) :: st))) : Ends p l e R s m args below meth c C S Q T (mkF m pc Ls (.int x :: st)) := step (fun _ h => by subst hq; exact XS.i2dS X.here hx rfl hd rfl rfl h) k
theorem b53_i (x : Int32) : B53 x.toInt64 := by
  have h := rng32 x
  unfold B53; rw [c_i2l]
  exact ⟨Int.lt_of_lt_of_le (by decide) h.1, Int.lt_trans h.2 (by decide)⟩
theorem dcmp_i (x y : Int32) (o : CmpOp) : cmpValue (FP.dcmp (FP.i2d x) (FP.i2d y)) o = lcmpW x.toInt64 y.toInt64 := by
  rw [i2d_w, i2d_w]; exact dcmpV_w (b53_i x) (b53_i y) o
theorem dcmpI (X : Stand p l e R s m args below meth c T locs cells slots) (hx : p.tables.exec = Jvm.exec) {o : CmpOp} {x y : Int32} (hd : decode c.code pc = .ok (.dcmp o, 1)) (hq : pc + 1 = q) (k : Ends p l e R s m args below meth c C S Q T (mkF m q Ls (.int (lcmpW x.toInt64 y.toInt64) :: st))) : Ends p l e R s m args below meth c C S Q T (mkF m pc Ls (.double (FP.i2d y) :: .double (FP.i2d x) :: st)) := step (fun _ h => by subst hq; exact XS.dcmpS X.here hx rfl hd rfl (dcmp_i x y o) h) k
theorem ldc2Long (X : Stand p l e R s m args below meth c T locs cells slots) (hx : p.tables.exec = Jvm.exec) {Z : State} {a0 : Array Value} (hZ : Z.Warmed39 s.vm) {own : String} (hown : s.vm.findClass own = some m.cls) {index : Nat} {v : Int64} (w : (Jvm.Cond.constantLong own index v).before a0 Z = true) (hd : decode c.code pc = .ok (.ldc2_w index, 3)) (hq : pc + 3 = q) (k : Ends p l e R s m args below meth c C S Q T (mkF m q Ls (.long v :: st))) : Ends p l e R s m args below meth c C S Q T (mkF m pc Ls st) := step (fun t h => by subst hq; exact X.ldc2Long hx hown (mvT hZ w) (g := mkF m pc Ls st) rfl hd t h) k
theorem ldcInt (X : Stand p l e R s m args below meth c T locs cells slots) (hx : p.tables.exec = Jvm.exec) {Z : State} {a0 : Array Value} (hZ : Z.Warmed39 s.vm) {own : String} (hown : s.vm.findClass own = some m.cls) {index : Nat} {v : Int32} (w : (Jvm.Cond.constant own index v).before a0 Z = true) (hd : decode c.code pc = .ok (.ldc index, 2)) (hq : pc + 2 = q) (k : Ends p l e R s m args below meth c C S Q T (mkF m q Ls (.int v :: st))) : Ends p l e R s m args below meth c C S Q T (mkF m pc Ls st) := step (fun t h => by subst hq; exact X.ldcInt hx hown (mvT hZ w) (g := mkF m pc Ls st) rfl hd t h) k
theorem retZ (X : Stand p l e R s m args below meth c T locs cells slots) (hx : p.tables.exec = Jvm.exec) {z : Int32} {t : FieldType} (hret : meth.sig.returnType = some t) (ht : t = .boolean ∨ t = .byte ∨ t = .char ∨ t = .short) (hd : decode c.code pc = .ok (.ireturn, 1)) (hQ : Q (some (.int (nar t z))) T.heap locs) (hc : cells ≤ C) (hs : slots ≤ S) : Ends p l e R s m args below meth c C S Q T (mkF m pc Ls (.int z :: st)) :=
  ⟨T, locs, cells, slots, _, X, hQ, hc, hs, (fun h => by rw [hret] at h; cases h), fun fs hl => retN X hx hret ht hd hl⟩
theorem retG (X : Stand p l e R s m args below meth c T locs cells slots) (hx : p.tables.exec = Jvm.exec) {w : Value} {t : FieldType} {i : Instr} (hret : meth.sig.returnType = some t) (hn : narrow t w = w)
    (hi : (i = .ireturn ∧ (t = .int ∨ t = .boolean ∨ t = .byte ∨ t = .char ∨ t = .short) ∧ ∃ z, w = .int z) ∨ (i = .lreturn ∧ t = .long ∧ ∃ z, w = .long z) ∨ (i = .dreturn ∧ t = .double ∧ ∃ z, w = .double z) ∨ (i = .freturn ∧ t = .float ∧ ∃ z, w = .float z) ∨ (i = .areturn ∧ t.isReference = true ∧ w.isRef = true)) (hd : decode c.code pc = .ok (i, 1)) (hQ : Q (some w) T.heap locs) (hc : cells ≤ C) (hs : slots ≤ S) : Ends p l e R s m args below meth c C S Q T (mkF m pc Ls (w :: st)) :=
  ⟨T, locs, cells, slots, _, X, hQ, hc, hs, (fun h => by rw [hret] at h; cases h), fun fs hl => retOut X hx hret hn hi hd hl⟩
theorem retI (X : Stand p l e R s m args below meth c T locs cells slots) (hx : p.tables.exec = Jvm.exec) {z : Int32} (hret : meth.sig.returnType = some .int) (hd : decode c.code pc = .ok (.ireturn, 1)) (hQ : Q (some (.int z)) T.heap locs) (hc : cells ≤ C) (hs : slots ≤ S) : Ends p l e R s m args below meth c C S Q T (mkF m pc Ls (.int z :: st)) := retG X hx hret rfl (Or.inl ⟨rfl, Or.inl rfl, z, rfl⟩) hd hQ hc hs
theorem retL (X : Stand p l e R s m args below meth c T locs cells slots) (hx : p.tables.exec = Jvm.exec) {z : Int64} (hret : meth.sig.returnType = some .long) (hd : decode c.code pc = .ok (.lreturn, 1)) (hQ : Q (some (.long z)) T.heap locs) (hc : cells ≤ C) (hs : slots ≤ S) : Ends p l e R s m args below meth c C S Q T (mkF m pc Ls (.long z :: st)) := retG X hx hret rfl (Or.inr (Or.inl ⟨rfl, rfl, z, rfl⟩)) hd hQ hc hs
theorem retA (X : Stand p l e R s m args below meth c T locs cells slots) (hx : p.tables.exec = Jvm.exec) {v : Value} {t : FieldType} (hret : meth.sig.returnType = some t) (ht : t.isReference = true) (hv : v.isRef = true) (hn : narrow t v = v) (hd : decode c.code pc = .ok (.areturn, 1)) (hQ : Q (some v) T.heap locs) (hc : cells ≤ C) (hs : slots ≤ S) : Ends p l e R s m args below meth c C S Q T (mkF m pc Ls (v :: st)) := retG X hx hret hn (Or.inr (Or.inr (Or.inr (Or.inr ⟨rfl, ht, hv⟩)))) hd hQ hc hs
theorem retV (X : Stand p l e R s m args below meth c T locs cells slots) (hx : p.tables.exec = Jvm.exec) (hret : meth.sig.returnType = none) (hd : decode c.code pc = .ok (.return_, 1)) (hQ : Q none T.heap locs) (hc : cells ≤ C) (hs : slots ≤ S) : Ends p l e R s m args below meth c C S Q T (mkF m pc Ls []) :=
  ⟨T, locs, cells, slots, none, X, hQ, hc, hs, (fun _ => rfl), fun fs hl => X.returnOut hx hret hd hl⟩
theorem callS (X : Stand p l e R s m args below meth c T locs cells slots) (hx : p.tables.exec = Jvm.exec) {Z : State} {a0 : Array Value} (hZ : Z.Warmed39 s.vm) {own : String} (hown : s.vm.findClass own = some m.cls) {index : Nat} {h : Heap} (eT : T.heap = h) {y : MethodName} {bytes : ByteArray} {maxL : Nat} {ret : Option FieldType} {rm : Room} {Qc : Option Value → Heap → List Loc → Prop} (w1 : (Jvm.Cond.methodLink own index y).before a0 Z = true) (w2 : (Jvm.Cond.static y).before a0 Z = true) (w3 : (Jvm.Cond.initialized y.cls).before a0 Z = true) (w4 : (Jvm.Cond.code y bytes maxL ret).before a0 Z = true) (hy : y.cls ≠ "java/lang/invoke/MethodHandle" ∧ y.cls ≠ "java/lang/invoke/VarHandle")
    {argsL : List Value} (hM : Pays l Z y bytes maxL ret [] rm argsL.toArray h Qc) (hsize : Ls.size = c.maxLocals) {ps : List FieldType} {rt : Option FieldType} (hsig : parseMethodDescriptor y.desc = some ⟨ps, rt⟩) (hlen : argsL.length = ps.length) {W : Nat} (hW : (rest.map fun v => v.category).sum ≤ W) (hf : rm.frames + 1 ≤ R.frames) (hl : W + (maxL + 11) + rm.locals ≤ R.locals) (hcc : cells + rm.cells ≤ R.cells) (hss : slots + rm.slots ≤ R.slots) (hst : st = argsL.reverse ++ rest) (hd : decode c.code pc = .ok (.invokestatic index, 3)) (hq : pc + 3 = q) (k : ∀ (T' : State) (v : Option Value) (L : List Loc), Stand p l e R s m args below meth c T' (locs ++ L) (cells + rm.cells) (slots + rm.slots) → Qc v T'.heap L → Ends p l e R s m args below meth c C S Q T' (mkF m q Ls (v.toList ++ rest))) : Ends p l e R s m args below meth c C S Q T (mkF m pc Ls st) := by
  obtain ⟨v, _, ⟨T', L', k', n'⟩, -, X', ⟨L, hQ, l1, y1, z1⟩, stp⟩ := Jvm.LawKit.callS X hx (y := y) hown (mvT hZ w1) (mvT hZ w2) (mvT hZ w3) (mvT hZ w4) hy (backOf (W := W) hM hZ w4 w3 hf hl) (g := mkF m pc Ls st) rfl hsize (argsL := argsL) (rest := rest) (lenOf hsig hlen) hst (by show 2 * 0 + _ ≤ _; omega) hd (fun _ _ => ⟨rfl, eT, hcc, hss⟩)
  dsimp only [Pt.U, Pt.locs, Pt.cells, Pt.slots] at X' l1 y1 z1 stp hQ
  subst l1 y1 z1 hq
  exact step stp (k T' v L X' hQ)
theorem callI (X : Stand p l e R s m args below meth c T locs cells slots) (hx : p.tables.exec = Jvm.exec) {Z : State} {a0 : Array Value} (hZ : Z.Warmed39 s.vm) {own : String} (hown : s.vm.findClass own = some m.cls) {index : Nat} {h : Heap} (eT : T.heap = h) {y : MethodName} {bytes : ByteArray} {maxL : Nat} {rm : Room} {Qc : Option Value → Heap → List Loc → Prop} (hy1 : y.name = "<init>") (w1 : (Jvm.Cond.methodLink own index y).before a0 Z = true) (w2 : (Jvm.Cond.instanceMethod y).before a0 Z = true) (w3 : (Jvm.Cond.initialized y.cls).before a0 Z = true) (w4 : (Jvm.Cond.code y bytes maxL none).before a0 Z = true) (hy : y.cls ≠ "java/lang/invoke/MethodHandle" ∧ y.cls ≠ "java/lang/invoke/VarHandle")
    {a : Addr} {argsL : List Value} (hM : Pays l Z y bytes maxL none [] rm (Value.ref a :: argsL).toArray h Qc) (hsize : Ls.size = c.maxLocals) {ps : List FieldType} {rt : Option FieldType} (hsig : parseMethodDescriptor y.desc = some ⟨ps, rt⟩) (hlen : argsL.length = ps.length) {W : Nat} (hW : (rest.map fun v => v.category).sum ≤ W) (hf : rm.frames + 1 ≤ R.frames) (hl : W + (maxL + 11) + rm.locals ≤ R.locals) (hcc : cells + rm.cells ≤ R.cells) (hss : slots + rm.slots ≤ R.slots) (hst : st = argsL.reverse ++ .ref a :: rest) (hd : decode c.code pc = .ok (.invokespecial index, 3)) (hq : pc + 3 = q) (k : ∀ (T' : State) (v : Option Value) (L : List Loc), Stand p l e R s m args below meth c T' (locs ++ L) (cells + rm.cells) (slots + rm.slots) → Qc v T'.heap L → Ends p l e R s m args below meth c C S Q T' (mkF m q Ls (v.toList ++ rest))) : Ends p l e R s m args below meth c C S Q T (mkF m pc Ls st) := by
  obtain ⟨v, _, ⟨T', L', k', n'⟩, -, X', ⟨L, hQ, l1, y1, z1⟩, stp⟩ := X.specialBack hx (y := y) hy1 hown (mvT hZ w1) (mvT hZ w2) (mvT hZ w4) hy (backOf (W := W) hM hZ w4 w3 hf hl) (g := mkF m pc Ls st) rfl hsize (Steps.refl _) (a := a) (argsL := argsL) (rest := rest) (lenOf hsig hlen) hst (by show 2 * 0 + _ ≤ _; omega) hd (fun _ _ => ⟨rfl, eT, hcc, hss⟩)
  dsimp only [Pt.U, Pt.locs, Pt.cells, Pt.slots] at X' l1 y1 z1 stp hQ
  subst l1 y1 z1 hq
  exact step (fun _ h => stp.trans h) (k T' v L X' hQ)
theorem callV (X : Stand p l e R s m args below meth c T locs cells slots) (hx : p.tables.exec = Jvm.exec) {Z : State} {a0 : Array Value} (hZ : Z.Warmed39 s.vm) {own : String} (hown : s.vm.findClass own = some m.cls) {index : Nat} {h : Heap} (eT : T.heap = h) {y z : MethodName} {K : String} {bytes : ByteArray} {maxL : Nat} {ret : Option FieldType} {rm : Room} {Qc : Option Value → Heap → List Loc → Prop} (w1 : (Jvm.Cond.methodLink own index y).before a0 Z = true) (w2 : (Jvm.Cond.declares y).before a0 Z = true) (hnf : NotFace s y) (w5 : (Jvm.Cond.selects K y z).before a0 Z = true) (w6 : (Jvm.Cond.instanceMethod z).before a0 Z = true) (w3 : (Jvm.Cond.initialized z.cls).before a0 Z = true) (w4 : (Jvm.Cond.code z bytes maxL ret).before a0 Z = true) (hy : y.cls ≠ "java/lang/invoke/MethodHandle" ∧ y.cls ≠ "java/lang/invoke/VarHandle")
    {a : Addr} (E : Exa Z h a K) {argsL : List Value} (hM : Pays l Z z bytes maxL ret [] rm (Value.ref a :: argsL).toArray h Qc) (hsize : Ls.size = c.maxLocals) {ps : List FieldType} {rt : Option FieldType} (hsig : parseMethodDescriptor y.desc = some ⟨ps, rt⟩) (hlen : argsL.length = ps.length) {W : Nat} (hW : (rest.map fun v => v.category).sum ≤ W) (hf : rm.frames + 1 ≤ R.frames) (hl : W + (maxL + 11) + rm.locals ≤ R.locals) (hcc : cells + rm.cells ≤ R.cells) (hss : slots + rm.slots ≤ R.slots) (hst : st = argsL.reverse ++ .ref a :: rest) (hd : decode c.code pc = .ok (.invokevirtual index, 3)) (hq : pc + 3 = q) (k : ∀ (T' : State) (v : Option Value) (L : List Loc), Stand p l e R s m args below meth c T' (locs ++ L) (cells + rm.cells) (slots + rm.slots) → Qc v T'.heap L → Ends p l e R s m args below meth c C S Q T' (mkF m q Ls (v.toList ++ rest))) : Ends p l e R s m args below meth c C S Q T (mkF m pc Ls st) := by
  obtain ⟨cq, kq, qa, qb, qc⟩ := isOf hZ eT E
  obtain ⟨v, _, ⟨T', L', k', n'⟩, -, X', ⟨L, hQ, l1, y1, z1⟩, stp⟩ := X.virtualBack hx (y := y) (z := z) hown (mvT hZ w1) (mvT hZ w2) hnf (mvT hZ w5) (mvT hZ w6) hy (backOf (W := W) hM hZ w4 w3 hf hl) qa qc (g := mkF m pc Ls st) rfl hsize (Steps.refl _) (argsL := argsL) (rest := rest) (lenOf hsig hlen) hst (by show 2 * 0 + _ ≤ _; omega) hd (fun _ _ => ⟨rfl, eT, hcc, hss⟩)
  dsimp only [Pt.U, Pt.locs, Pt.cells, Pt.slots] at X' l1 y1 z1 stp hQ
  subst l1 y1 z1 hq
  exact step (fun _ h => stp.trans h) (k T' v L X' hQ)
theorem pureK {T' : State} {v V : Option Value} {h : Heap} {L : List Loc} (X' : Stand p l e R s m args below meth c T' (locs ++ L) (cells + 0) (slots + 0)) (hQ : RetQ V h v T'.heap L) : Stand p l e R s m args below meth c T' locs cells slots ∧ T'.heap = h ∧ v = V := by
  obtain ⟨h1, h2, rfl⟩ := hQ
  rw [List.append_nil] at X'
  exact ⟨X', h2, h1⟩
theorem iteP {α : Type} {P : α → Prop} {c : Prop} [Decidable c] {a b : α} (h1 : P a) (h2 : P b) : P (if c then a else b) := by split <;> assumption
theorem cat_of {v : Value} (h : v.isRef = true) : v.category = 1 := by rcases ref_cases h with rfl | ⟨a, rfl⟩ <;> rfl
theorem c_t {cd : ClassFile.Cond} {x : Int32} {b : Bool} (h : if_icmp.holds cd x 0 = b) : ifCond.holds cd x = b := (if0 cd x).trans h
theorem Ext_trans {h0 h h' : Heap} (E : Ext h0 h) (E' : Ext h h') : Ext h0 h' := ⟨Nat.le_trans E.1 E'.1, fun a c q => E'.2 a c (E.2 a c q)⟩
theorem Ext_wr {h0 h h' : Heap} {a : Addr} {sl : Nat} {v : Value} (E : Ext h0 h) (W : Wr h h' a sl v) (q : h0.size ≤ a) : Ext h0 h' :=
  ⟨Nat.le_trans E.1 (Keep.of_wr W).1, fun b c r => (Keep.of_wr W).2.1 b c (E.2 b c r) (ninS (Nat.ne_of_lt (Nat.lt_of_lt_of_le (Array.getElem?_eq_some_iff.mp r).1 q)) nin0)⟩
theorem Ext_keep {h0 h h' : Heap} {ws : List Addr} (E : Ext h0 h) (K : Keep h h' ws) (q : ∀ x ∈ ws, h0.size ≤ x) : Ext h0 h' :=
  ⟨Nat.le_trans E.1 K.1, fun b c r => K.2.1 b c (E.2 b c r) fun z => absurd (Array.getElem?_eq_some_iff.mp r).1 (Nat.not_lt.mpr (q b z))⟩
theorem rr_t {a b : Addr} (h : a = b) : decide ((Value.ref a : Value) = .ref b) = true := decide_eq_true (congrArg Value.ref h)
theorem rr_f {a b : Addr} (h : ¬ a = b) : decide ((Value.ref a : Value) = .ref b) = false := decide_eq_false fun q => h (Value.ref.inj q)
theorem l_t {x y : Int64} (h : x < y) : lcmpW x y < 0 := (lw_lt x y).mpr h
theorem l_f {x y : Int64} (h : ¬ x < y) : ¬ lcmpW x y < 0 := fun q => h ((lw_lt x y).mp q)
theorem g_t {x y : Int64} (h : y < x) : 0 < lcmpW x y := (lw_gt x y).mpr h
theorem g_f {x y : Int64} (h : ¬ y < x) : ¬ 0 < lcmpW x y := fun q => h ((lw_gt x y).mp q)
theorem e_t {x y : Int64} (h : x = y) : lcmpW x y = 0 := (lw_eq x y).mpr h
theorem e_f {x y : Int64} (h : ¬ x = y) : ¬ lcmpW x y = 0 := fun q => h ((lw_eq x y).mp q)
end
end Jvm.EKit
namespace Jvm.EKit
open Sem ClassFile Op Lib Jvm.Stand Jvm.Free Jvm.LawKit Jvm.RoadKit
/-- the array at a: its class, kind, length, and what lies at each place -/
def Ary (Z : State) (h : Heap) (a : Addr) (k : ClassId) (ty : FieldType) (n : Int32) (f : Int32 → Value) : Prop :=
  ∃ cl : Cell, Arr Z h a cl ty ∧ cl.cls = k ∧ cl.slots.size = n.toNatClampNeg ∧ ¬ n < 0 ∧ ∀ j : Int32, ¬ j < 0 → j < n → cl.slots[j.toNatClampNeg]? = some (f j)
section
variable {Z : State} {h h' : Heap} {a b : Addr} {k : ClassId} {ty : FieldType} {n : Int32} {f : Int32 → Value}
theorem Ary.lt (F : Ary Z h a k ty n f) : a < h.size := by obtain ⟨cl, A, -⟩ := F; exact A.lt
theorem Ary.ext (F : Ary Z h a k ty n f) (E : Ext h h') : Ary Z h' a k ty n f := by obtain ⟨cl, A, r⟩ := F; exact ⟨cl, A.ext E, r⟩
theorem Ary.other {sl : Nat} {v : Value} (F : Ary Z h b k ty n f) (W : Wr h h' a sl v) (q : b ≠ a) : Ary Z h' b k ty n f := by obtain ⟨cl, A, r⟩ := F; exact ⟨cl, A.other W q, r⟩
theorem Ary.keep {ws : List Addr} (F : Ary Z h a k ty n f) (K : Keep h h' ws) (q : a ∉ ws) : Ary Z h' a k ty n f := by obtain ⟨cl, A, r⟩ := F; exact ⟨cl, ⟨K.2.1 a cl A.1 q, A.2⟩, r⟩
theorem Ary.new (A : Arr Z h a (newA k ty n) ty) (q : ¬ n < 0) : Ary Z h a k ty n (fun _ => defaultValue ty) :=
  ⟨_, A, rfl, sz_new _ _ _, q, fun j h1 h2 => get_new (by rw [← sz_new k ty n]; exact inb_of (sz_new k ty n) ⟨h1, h2⟩)⟩
theorem Ary.eq {g : Int32 → Value} (F : Ary Z h a k ty n f) (q : ∀ j : Int32, ¬ j < 0 → j < n → f j = g j) : Ary Z h a k ty n g := by
  obtain ⟨cl, A, r1, r2, r3, r4⟩ := F; exact ⟨cl, A, r1, r2, r3, fun j h1 h2 => (r4 j h1 h2).trans (congrArg some (q j h1 h2))⟩
theorem evalEq {args : Array Value} {first s : State} {o : Option Outcome} {idx : List Nat} {t u : Jvm.Term} {v : Value} (h : (Jvm.Cond.eq t u).value args first o s idx = some true) (hu : u.eval args first o idx s = some v) : t.eval args first o idx s = some v := by
  simp only [Cond.value, hu] at h
  cases ht : t.eval args first o idx s with
  | none => simp [ht] at h
  | some w => cases w <;> cases v <;> simp [ht] at h <;> simp [h]
theorem evalLen {args : Array Value} {first s : State} {o : Option Outcome} {idx : List Nat} {t : Jvm.Term} {x : Addr} {cl : Cell} {z : Int32} (h : (Jvm.Term.length t).eval args first o idx s = some (.int z)) (ht : t.eval args first o idx s = some (.ref x)) (A : Arr s s.heap x cl ty) : cl.slots.size = z.toNatClampNeg ∧ ¬ z < 0 := by
  have ha := A.fin (U := s) (Vm.Alike.refl _)
  simp only [Term.eval, ht, ha, Option.bind_eq_bind, Option.bind_some] at h
  by_cases hl : cl.slots.size < 2 ^ 31
  · simp [hl] at h
    subst h
    have e : cl.slots.size.toInt32.toInt = cl.slots.size := len_toInt hl
    refine ⟨by simp only [Int32.toNatClampNeg, e]; rfl, ?_⟩
    rw [Int32.lt_iff_toInt_lt, e]; exact Int.not_lt.mpr (Int.natCast_nonneg _)
  · simp [hl] at h
theorem Ary.start {cl : Cell} (A : Arr Z h a cl ty) (r2 : cl.slots.size = n.toNatClampNeg) (r3 : ¬ n < 0) (r4 : ∀ i : Nat, i < n.toNatClampNeg → cl.slots[i]? = some (f (Int32.ofNat i))) : Ary Z h a cl.cls ty n f := by
  refine ⟨cl, A, rfl, r2, r3, fun j h1 h2 => ?_⟩
  have e := back32 h1
  have q := r4 j.toNatClampNeg (by
    rw [Int32.lt_iff_toInt_lt] at h1 h2
    rw [show (0 : Int32).toInt = 0 from rfl] at h1
    simp only [Int32.toNatClampNeg]; omega)
  rw [q]; exact congrArg (fun z => some (f z)) e.1
theorem clamp_inj {i j : Int32} (hi : ¬ i < 0) (hj : ¬ j < 0) (q : i.toNatClampNeg = j.toNatClampNeg) : i = j := by
  rw [Int32.lt_iff_toInt_lt, show (0 : Int32).toInt = 0 from rfl] at hi hj
  apply Int32.toInt_inj.mp
  have e1 : i.toNatClampNeg = i.toInt.toNat := rfl
  have e2 : j.toNatClampNeg = j.toInt.toNat := rfl
  omega
theorem Ary.set {cl : Cell} {i : Int32} {v : Value} (A : Arr Z h a cl ty) (r1 : cl.cls = k) (r2 : cl.slots.size = n.toNatClampNeg) (r3 : ¬ n < 0) (r4 : ∀ j : Int32, ¬ j < 0 → j < n → cl.slots[j.toNatClampNeg]? = some (f j)) (hi : ¬ i < 0) (hn : i < n) (W : Wr h h' a i.toNatClampNeg v) : Ary Z h' a k ty n (fun j => if j = i then v else f j) := by
  refine ⟨_, A.same W, r1, (sz_set _ _ _).trans r2, r3, fun j h1 h2 => ?_⟩
  by_cases q : j = i
  · exact (get_hit (inb_of r2 ⟨hi, hn⟩) q).trans (congrArg some (if_pos q).symm)
  · exact ((get_miss hi h1 q).trans (r4 j h1 h2)).trans (congrArg some (if_neg q).symm)
end
section
variable {p : Program} {l : Launch} {e : Env} {R : Room} {s : State} {m : MethodId} {args : Array Value} {below : List Frame} {meth : Method} {c : Code} {T : State} {locs : List Loc} {cells slots : Nat} {C S : Nat} {Q : Option Value → Heap → List Loc → Prop} {pc q : Nat} {Ls : Array Slot} {st : List Value} {Z : State} {h : Heap} {a : Addr} {k : ClassId} {n j : Int32} {f : Int32 → Value}

theorem alen (X : Stand p l e R s m args below meth c T locs cells slots) (hx : p.tables.exec = Jvm.exec) (hZ : Z.Warmed39 s.vm) (eT : T.heap = h) {ty : FieldType} (F : Ary Z h a k ty n f) (hd : decode c.code pc = .ok (.arraylength, 1)) (hq : pc + 1 = q) (kk : Ends p l e R s m args below meth c C S Q T (mkF m q Ls (.int n :: st))) : Ends p l e R s m args below meth c C S Q T (mkF m pc Ls (.ref a :: st)) := by
  obtain ⟨cl, A, r1, r2, r3, r4⟩ := F
  subst hq
  exact step (fun t h => X.arraylength hx (by rw [eT]; exact A.1) (State.isArrayOf_alike hZ.alike A.2.1) (g := mkF m pc Ls (.ref a :: st)) rfl rfl hd t (by rw [len_of r2 r3]; exact h)) kk
theorem iaload (X : Stand p l e R s m args below meth c T locs cells slots) (hx : p.tables.exec = Jvm.exec) (hZ : Z.Warmed39 s.vm) (eT : T.heap = h) (F : Ary Z h a k .int n f) (h1 : ¬ j < 0) (h2 : j < n) {v : Value} (hv : f j = v) (hd : decode c.code pc = .ok (.iaload, 1)) (hq : pc + 1 = q) (kk : Ends p l e R s m args below meth c C S Q T (mkF m q Ls (v :: st))) : Ends p l e R s m args below meth c C S Q T (mkF m pc Ls (.int j :: .ref a :: st)) := by
  obtain ⟨cl, A, r1, r2, r3, r4⟩ := F
  subst hq hv
  exact step (fun t h => X.iaload hx (by rw [eT]; exact A.1) (State.isArrayOf_alike hZ.alike A.2.1) A.2.2 (inb_of r2 ⟨h1, h2⟩) (r4 j h1 h2) (g := mkF m pc Ls (.int j :: .ref a :: st)) rfl rfl hd t h) kk
theorem laload (X : Stand p l e R s m args below meth c T locs cells slots) (hx : p.tables.exec = Jvm.exec) (hZ : Z.Warmed39 s.vm) (eT : T.heap = h) (F : Ary Z h a k .long n f) (h1 : ¬ j < 0) (h2 : j < n) {v : Value} (hv : f j = v) (hd : decode c.code pc = .ok (.laload, 1)) (hq : pc + 1 = q) (kk : Ends p l e R s m args below meth c C S Q T (mkF m q Ls (v :: st))) : Ends p l e R s m args below meth c C S Q T (mkF m pc Ls (.int j :: .ref a :: st)) := by
  obtain ⟨cl, A, r1, r2, r3, r4⟩ := F
  subst hq hv
  exact step (fun t h => X.laload hx (by rw [eT]; exact A.1) (State.isArrayOf_alike hZ.alike A.2.1) A.2.2 (inb_of r2 ⟨h1, h2⟩) (r4 j h1 h2) (g := mkF m pc Ls (.int j :: .ref a :: st)) rfl rfl hd t h) kk
theorem caload (X : Stand p l e R s m args below meth c T locs cells slots) (hx : p.tables.exec = Jvm.exec) (hZ : Z.Warmed39 s.vm) (eT : T.heap = h) (F : Ary Z h a k .char n f) (h1 : ¬ j < 0) (h2 : j < n) {v : Value} (hv : f j = v) (hd : decode c.code pc = .ok (.caload, 1)) (hq : pc + 1 = q) (kk : Ends p l e R s m args below meth c C S Q T (mkF m q Ls (v :: st))) : Ends p l e R s m args below meth c C S Q T (mkF m pc Ls (.int j :: .ref a :: st)) := by
  obtain ⟨cl, A, r1, r2, r3, r4⟩ := F
  subst hq hv
  exact step (fun t h => X.caload hx (by rw [eT]; exact A.1) (State.isArrayOf_alike hZ.alike A.2.1) A.2.2 (inb_of r2 ⟨h1, h2⟩) (r4 j h1 h2) (g := mkF m pc Ls (.int j :: .ref a :: st)) rfl rfl hd t h) kk
theorem baloadB (X : Stand p l e R s m args below meth c T locs cells slots) (hx : p.tables.exec = Jvm.exec) (hZ : Z.Warmed39 s.vm) (eT : T.heap = h) (F : Ary Z h a k .byte n f) (h1 : ¬ j < 0) (h2 : j < n) {v : Value} (hv : f j = v) (hd : decode c.code pc = .ok (.baload, 1)) (hq : pc + 1 = q) (kk : Ends p l e R s m args below meth c C S Q T (mkF m q Ls (v :: st))) : Ends p l e R s m args below meth c C S Q T (mkF m pc Ls (.int j :: .ref a :: st)) := by
  obtain ⟨cl, A, r1, r2, r3, r4⟩ := F
  subst hq hv
  exact step (fun t h => X.baloadBytes hx (by rw [eT]; exact A.1) (State.isArrayOf_alike hZ.alike A.2.1) A.2.2 (inb_of r2 ⟨h1, h2⟩) (r4 j h1 h2) (g := mkF m pc Ls (.int j :: .ref a :: st)) rfl rfl hd t h) kk
theorem baloadZ (X : Stand p l e R s m args below meth c T locs cells slots) (hx : p.tables.exec = Jvm.exec) (hZ : Z.Warmed39 s.vm) (eT : T.heap = h) (F : Ary Z h a k .boolean n f) (h1 : ¬ j < 0) (h2 : j < n) {v : Value} (hv : f j = v) (hd : decode c.code pc = .ok (.baload, 1)) (hq : pc + 1 = q) (kk : Ends p l e R s m args below meth c C S Q T (mkF m q Ls (v :: st))) : Ends p l e R s m args below meth c C S Q T (mkF m pc Ls (.int j :: .ref a :: st)) := by
  obtain ⟨cl, A, r1, r2, r3, r4⟩ := F
  subst hq hv
  exact step (fun t h => X.baloadBooleans hx (by rw [eT]; exact A.1) (State.isArrayOf_alike hZ.alike A.2.1) A.2.2 (inb_of r2 ⟨h1, h2⟩) (r4 j h1 h2) (g := mkF m pc Ls (.int j :: .ref a :: st)) rfl rfl hd t h) kk
theorem aaload (X : Stand p l e R s m args below meth c T locs cells slots) (hx : p.tables.exec = Jvm.exec) (hZ : Z.Warmed39 s.vm) (eT : T.heap = h) {ty : FieldType} (hty : ty.isReference = true) (F : Ary Z h a k ty n f) (h1 : ¬ j < 0) (h2 : j < n) {v : Value} (hv : f j = v) (hd : decode c.code pc = .ok (.aaload, 1)) (hq : pc + 1 = q) (kk : Ends p l e R s m args below meth c C S Q T (mkF m q Ls (v :: st))) : Ends p l e R s m args below meth c C S Q T (mkF m pc Ls (.int j :: .ref a :: st)) := by
  obtain ⟨cl, A, r1, r2, r3, r4⟩ := F
  subst hq hv
  exact step (fun t h => X.aaload hx (by rw [eT]; exact A.1) (State.isArrayOf_alike hZ.alike A.2.1) hty A.2.2 (inb_of r2 ⟨h1, h2⟩) (r4 j h1 h2) (g := mkF m pc Ls (.int j :: .ref a :: st)) rfl rfl hd t h) kk
theorem iastore (X : Stand p l e R s m args below meth c T locs cells slots) (hx : p.tables.exec = Jvm.exec) (hZ : Z.Warmed39 s.vm) (eT : T.heap = h) (F : Ary Z h a k .int n f) {x : Int32} (h1 : ¬ j < 0) (h2 : j < n) (hd : decode c.code pc = .ok (.iastore, 1)) (hq : pc + 1 = q)
    (kk : ∀ (T' : State) (h' : Heap), Stand p l e R s m args below meth c T' (locs ++ [⟨a, j.toNatClampNeg⟩]) cells slots → T'.heap = h' → Wr h h' a j.toNatClampNeg (.int x) → Ary Z h' a k .int n (fun i => if i = j then .int x else f i) → Ends p l e R s m args below meth c C S Q T' (mkF m q Ls st)) : Ends p l e R s m args below meth c C S Q T (mkF m pc Ls (.int x :: .int j :: .ref a :: st)) := by
  obtain ⟨cl, A, r1, r2, r3, r4⟩ := F
  obtain ⟨T', h', X', e', W', stp⟩ := stI X hx hZ eT A (j := j) (x := x) (inb_of r2 ⟨h1, h2⟩) (g := mkF m pc Ls (.int x :: .int j :: .ref a :: st)) rfl rfl hd
  subst hq
  exact step stp (kk T' h' X' e' W' (Ary.set A r1 r2 r3 r4 h1 h2 W'))
theorem lastore (X : Stand p l e R s m args below meth c T locs cells slots) (hx : p.tables.exec = Jvm.exec) (hZ : Z.Warmed39 s.vm) (eT : T.heap = h) (F : Ary Z h a k .long n f) {x : Int64} (h1 : ¬ j < 0) (h2 : j < n) (hd : decode c.code pc = .ok (.lastore, 1)) (hq : pc + 1 = q)
    (kk : ∀ (T' : State) (h' : Heap), Stand p l e R s m args below meth c T' (locs ++ [⟨a, j.toNatClampNeg⟩]) cells slots → T'.heap = h' → Wr h h' a j.toNatClampNeg (.long x) → Ary Z h' a k .long n (fun i => if i = j then .long x else f i) → Ends p l e R s m args below meth c C S Q T' (mkF m q Ls st)) : Ends p l e R s m args below meth c C S Q T (mkF m pc Ls (.long x :: .int j :: .ref a :: st)) := by
  obtain ⟨cl, A, r1, r2, r3, r4⟩ := F
  obtain ⟨T', h', X', e', W', stp⟩ := stJ X hx hZ eT A (j := j) (x := x) (inb_of r2 ⟨h1, h2⟩) (g := mkF m pc Ls (.long x :: .int j :: .ref a :: st)) rfl rfl hd
  subst hq
  exact step stp (kk T' h' X' e' W' (Ary.set A r1 r2 r3 r4 h1 h2 W'))
theorem castore (X : Stand p l e R s m args below meth c T locs cells slots) (hx : p.tables.exec = Jvm.exec) (hZ : Z.Warmed39 s.vm) (eT : T.heap = h) (F : Ary Z h a k .char n f) {x : Int32} (h1 : ¬ j < 0) (h2 : j < n) (hd : decode c.code pc = .ok (.castore, 1)) (hq : pc + 1 = q)
    (kk : ∀ (T' : State) (h' : Heap), Stand p l e R s m args below meth c T' (locs ++ [⟨a, j.toNatClampNeg⟩]) cells slots → T'.heap = h' → Wr h h' a j.toNatClampNeg (.int (nar .char x)) → Ary Z h' a k .char n (fun i => if i = j then .int (nar .char x) else f i) → Ends p l e R s m args below meth c C S Q T' (mkF m q Ls st)) : Ends p l e R s m args below meth c C S Q T (mkF m pc Ls (.int x :: .int j :: .ref a :: st)) := by
  obtain ⟨cl, A, r1, r2, r3, r4⟩ := F
  obtain ⟨T', h', X', e', W', stp⟩ := stC X hx hZ eT A (j := j) (x := x) (inb_of r2 ⟨h1, h2⟩) (g := mkF m pc Ls (.int x :: .int j :: .ref a :: st)) rfl rfl hd
  subst hq
  exact step stp (kk T' h' X' e' W' (Ary.set A r1 r2 r3 r4 h1 h2 W'))
theorem bastoreB (X : Stand p l e R s m args below meth c T locs cells slots) (hx : p.tables.exec = Jvm.exec) (hZ : Z.Warmed39 s.vm) (eT : T.heap = h) (F : Ary Z h a k .byte n f) {x : Int32} (h1 : ¬ j < 0) (h2 : j < n) (hd : decode c.code pc = .ok (.bastore, 1)) (hq : pc + 1 = q)
    (kk : ∀ (T' : State) (h' : Heap), Stand p l e R s m args below meth c T' (locs ++ [⟨a, j.toNatClampNeg⟩]) cells slots → T'.heap = h' → Wr h h' a j.toNatClampNeg (.int (nar .byte x)) → Ary Z h' a k .byte n (fun i => if i = j then .int (nar .byte x) else f i) → Ends p l e R s m args below meth c C S Q T' (mkF m q Ls st)) : Ends p l e R s m args below meth c C S Q T (mkF m pc Ls (.int x :: .int j :: .ref a :: st)) := by
  obtain ⟨cl, A, r1, r2, r3, r4⟩ := F
  obtain ⟨T', h', X', e', W', stp⟩ := stB X hx hZ eT A (j := j) (x := x) (inb_of r2 ⟨h1, h2⟩) (g := mkF m pc Ls (.int x :: .int j :: .ref a :: st)) rfl rfl hd
  subst hq
  exact step stp (kk T' h' X' e' W' (Ary.set A r1 r2 r3 r4 h1 h2 W'))
theorem bastoreZ (X : Stand p l e R s m args below meth c T locs cells slots) (hx : p.tables.exec = Jvm.exec) (hZ : Z.Warmed39 s.vm) (eT : T.heap = h) (F : Ary Z h a k .boolean n f) {x : Int32} (h1 : ¬ j < 0) (h2 : j < n) (hd : decode c.code pc = .ok (.bastore, 1)) (hq : pc + 1 = q)
    (kk : ∀ (T' : State) (h' : Heap), Stand p l e R s m args below meth c T' (locs ++ [⟨a, j.toNatClampNeg⟩]) cells slots → T'.heap = h' → Wr h h' a j.toNatClampNeg (.int (nar .boolean x)) → Ary Z h' a k .boolean n (fun i => if i = j then .int (nar .boolean x) else f i) → Ends p l e R s m args below meth c C S Q T' (mkF m q Ls st)) : Ends p l e R s m args below meth c C S Q T (mkF m pc Ls (.int x :: .int j :: .ref a :: st)) := by
  obtain ⟨cl, A, r1, r2, r3, r4⟩ := F
  obtain ⟨T', h', X', e', W', stp⟩ := stZ X hx hZ eT A (j := j) (x := x) (inb_of r2 ⟨h1, h2⟩) (g := mkF m pc Ls (.int x :: .int j :: .ref a :: st)) rfl rfl hd
  subst hq
  exact step stp (kk T' h' X' e' W' (Ary.set A r1 r2 r3 r4 h1 h2 W'))
theorem aastore (X : Stand p l e R s m args below meth c T locs cells slots) (hx : p.tables.exec = Jvm.exec) (hZ : Z.Warmed39 s.vm) (eT : T.heap = h) {K : String} (F : Ary Z h a k (.object K) n f) (O : Ovr Z k K) {b : Addr} (I : Ins Z h b K true) (h1 : ¬ j < 0) (h2 : j < n) (hd : decode c.code pc = .ok (.aastore, 1)) (hq : pc + 1 = q)
    (kk : ∀ (T' : State) (h' : Heap), Stand p l e R s m args below meth c T' (locs ++ [⟨a, j.toNatClampNeg⟩]) cells slots → T'.heap = h' → Wr h h' a j.toNatClampNeg (.ref b) → Ary Z h' a k (.object K) n (fun i => if i = j then .ref b else f i) → Ends p l e R s m args below meth c C S Q T' (mkF m q Ls st)) : Ends p l e R s m args below meth c C S Q T (mkF m pc Ls (.ref b :: .int j :: .ref a :: st)) := by
  obtain ⟨cl, A, r1, r2, r3, r4⟩ := F
  subst r1
  obtain ⟨T', h', X', e', W', stp⟩ := stR X hx hZ eT A (j := j) (v := .ref b) (inb_of r2 ⟨h1, h2⟩) rfl (Sto.of A O I) (g := mkF m pc Ls (.ref b :: .int j :: .ref a :: st)) rfl rfl hd
  subst hq
  exact step stp (kk T' h' X' e' W' (Ary.set A rfl r2 r3 r4 h1 h2 W'))
theorem newarr (X : Stand p l e R s m args below meth c T locs cells slots) (hx : p.tables.exec = Jvm.exec) (hZ : Z.Warmed39 s.vm) {a0 : Array Value} (eT : T.heap = h) {aty : ArrayType} (w : (Jvm.Cond.arrayClass (newarray.typeOf aty)).before a0 Z = true) (hn : ¬ n < 0) {cap : Nat} (hcap : n.toNatClampNeg ≤ cap) (hb : cap * 8 ≤ 536870912) (hc : cells + 1 ≤ R.cells) (hl : slots + cap ≤ R.slots) (hd : decode c.code pc = .ok (.newarray aty, 2)) (hq : pc + 2 = q)
    (kk : ∀ (T' : State) (h' : Heap) (b : Addr) (k : ClassId), Stand p l e R s m args below meth c T' locs (cells + 1) (slots + cap) → T'.heap = h' → Ext h h' → b = h.size → Ary Z h' b k (newarray.typeOf aty) n (fun _ => defaultValue (newarray.typeOf aty)) → Ends p l e R s m args below meth c C S Q T' (mkF m q Ls (.ref b :: st))) : Ends p l e R s m args below meth c C S Q T (mkF m pc Ls (.int n :: st)) := by
  obtain ⟨T', h', k', X', e', E', A', stp⟩ := newP X hx hZ w eT (g := mkF m pc Ls (.int n :: st)) rfl hd rfl hn (cap := cap) hcap hb hc hl
  subst hq
  exact step stp (kk T' h' h.size k' X' e' E' rfl (Ary.new A' hn))
theorem newref (X : Stand p l e R s m args below meth c T locs cells slots) (hx : p.tables.exec = Jvm.exec) (hZ : Z.Warmed39 s.vm) {a0 : Array Value} {own K : String} {index : Nat} (hown : s.vm.findClass own = some m.cls) (eT : T.heap = h) (w1 : (Jvm.Cond.classLink own index K).before a0 Z = true) (w2 : (Jvm.Cond.arrayOver (.object K)).before a0 Z = true) (hn : ¬ n < 0) {cap : Nat} (hcap : n.toNatClampNeg ≤ cap) (hb : cap * 8 ≤ 536870912) (hc : cells + 1 ≤ R.cells) (hl : slots + cap ≤ R.slots) (hd : decode c.code pc = .ok (.anewarray index, 3)) (hq : pc + 3 = q)
    (kk : ∀ (T' : State) (h' : Heap) (b : Addr) (k : ClassId), Stand p l e R s m args below meth c T' locs (cells + 1) (slots + cap) → T'.heap = h' → Ext h h' → b = h.size → Ovr Z k K → Ary Z h' b k (.object K) n (fun _ => .null) → Ends p l e R s m args below meth c C S Q T' (mkF m q Ls (.ref b :: st))) : Ends p l e R s m args below meth c C S Q T (mkF m pc Ls (.int n :: st)) := by
  obtain ⟨T', h', k', X', e', E', A', O', stp⟩ := newR X hx hZ hown w1 w2 eT (g := mkF m pc Ls (.int n :: st)) rfl hd rfl hn (cap := cap) hcap hb hc hl
  subst hq
  exact step stp (kk T' h' h.size k' X' e' E' rfl O' (Ary.new A' hn))
end
end Jvm.EKit
namespace Jvm.Pilot.@@N@@
open Jvm Jvm.ClassFile Sem Op Lib Jvm.Free Jvm.Stand Jvm.LawKit Jvm.RoadKit Bundle Jvm.Pilot.@@N@@.Jvm.D Jvm.EKit
theorem own_eqI {args : Array Value} {first s : State} {o : Option Outcome} {idx : List Nat} {t : Jvm.Term} {k : Int32} (h : (Jvm.Cond.eq t (.int k)).value args first o s idx = some true) : t.eval args first o idx s = some (.int k) := by
  simp only [Cond.value, Term.int_eval] at h
  cases ht : t.eval args first o idx s with
  | none => simp [ht] at h
  | some v => cases v <;> simp [ht] at h; rw [h]
def own_exp (i : Int32) (w_NULL : Addr) (w_GUID : Addr) (w_STRING : Addr) (w_UINT16 : Addr) (w_INT32 : Addr) (w_INT64 : Addr) (w_BYTE : Addr) (w_BOOLEAN : Addr) (w_SBYTE : Addr) (w_FLOAT : Addr) (w_DOUBLE : Addr) (w_UINT32 : Addr) (w_UINT64 : Addr) (w_INT16 : Addr) (w_DATE_TIME : Addr) (w_BYTE_STRING : Addr) (w_STATUS_CODE : Addr) : Value := if i = 0 then .ref w_NULL else if i = 1 then .ref w_BOOLEAN else if i = 2 then .ref w_SBYTE else if i = 3 then .ref w_BYTE else if i = 4 then .ref w_INT16 else if i = 5 then .ref w_UINT16 else if i = 6 then .ref w_INT32 else if i = 7 then .ref w_UINT32 else if i = 8 then .ref w_INT64 else if i = 9 then .ref w_UINT64 else if i = 10 then .ref w_FLOAT else if i = 11 then .ref w_DOUBLE else if i = 12 then .ref w_STRING else if i = 13 then .ref w_DATE_TIME else if i = 14 then .ref w_GUID else if i = 15 then .ref w_BYTE_STRING else if i = 19 then .ref w_STATUS_CODE else .null
theorem own_isref (i : Int32) (w_NULL : Addr) (w_GUID : Addr) (w_STRING : Addr) (w_UINT16 : Addr) (w_INT32 : Addr) (w_INT64 : Addr) (w_BYTE : Addr) (w_BOOLEAN : Addr) (w_SBYTE : Addr) (w_FLOAT : Addr) (w_DOUBLE : Addr) (w_UINT32 : Addr) (w_UINT64 : Addr) (w_INT16 : Addr) (w_DATE_TIME : Addr) (w_BYTE_STRING : Addr) (w_STATUS_CODE : Addr) : (own_exp i w_NULL w_GUID w_STRING w_UINT16 w_INT32 w_INT64 w_BYTE w_BOOLEAN w_SBYTE w_FLOAT w_DOUBLE w_UINT32 w_UINT64 w_INT16 w_DATE_TIME w_BYTE_STRING w_STATUS_CODE).isRef = true :=
  EKit.iteP (P := fun v : Value => v.isRef = true) rfl (EKit.iteP (P := fun v : Value => v.isRef = true) rfl (EKit.iteP (P := fun v : Value => v.isRef = true) rfl (EKit.iteP (P := fun v : Value => v.isRef = true) rfl (EKit.iteP (P := fun v : Value => v.isRef = true) rfl (EKit.iteP (P := fun v : Value => v.isRef = true) rfl (EKit.iteP (P := fun v : Value => v.isRef = true) rfl (EKit.iteP (P := fun v : Value => v.isRef = true) rfl (EKit.iteP (P := fun v : Value => v.isRef = true) rfl (EKit.iteP (P := fun v : Value => v.isRef = true) rfl (EKit.iteP (P := fun v : Value => v.isRef = true) rfl (EKit.iteP (P := fun v : Value => v.isRef = true) rfl (EKit.iteP (P := fun v : Value => v.isRef = true) rfl (EKit.iteP (P := fun v : Value => v.isRef = true) rfl (EKit.iteP (P := fun v : Value => v.isRef = true) rfl (EKit.iteP (P := fun v : Value => v.isRef = true) rfl (EKit.iteP (P := fun v : Value => v.isRef = true) rfl (rfl)))))))))))))))))
theorem ef_rm2 (m : MethodId) (x0 : Int32) : entryFrame m #[(.int x0)] 1 = mkF m 0 #[.val (.int x0)] [] := by first | (simp [entryFrame, mkF, argsToLocals, Value.category]; done) | rfl
theorem pn_com_example_pubframe_pubframe_message_BuiltInTypeForIdPinLaw : plainName "com/example/pubframe/pubframe/message/BuiltInTypeForIdPinLaw" = true := by first | (simp [plainName, overriddenIn]; done) | decide +kernel
theorem d2_0 : decode method_2_code 0 = .ok (.iload_n 0, 1) := by decide +kernel
theorem d2_1 : decode method_2_code 1 = .ok (.ifCond .ne 7, 3) := by decide +kernel
theorem d2_4 : decode method_2_code 4 = .ok (.getstatic 7, 3) := by decide +kernel
theorem d2_7 : decode method_2_code 7 = .ok (.areturn, 1) := by decide +kernel
theorem d2_8 : decode method_2_code 8 = .ok (.iload_n 0, 1) := by decide +kernel
theorem d2_9 : decode method_2_code 9 = .ok (.iconst 1, 1) := by decide +kernel
theorem d2_10 : decode method_2_code 10 = .ok (.if_icmp .ne 7, 3) := by decide +kernel
theorem d2_13 : decode method_2_code 13 = .ok (.getstatic 13, 3) := by decide +kernel
theorem d2_16 : decode method_2_code 16 = .ok (.areturn, 1) := by decide +kernel
theorem d2_17 : decode method_2_code 17 = .ok (.iload_n 0, 1) := by decide +kernel
theorem d2_18 : decode method_2_code 18 = .ok (.iconst 2, 1) := by decide +kernel
theorem d2_19 : decode method_2_code 19 = .ok (.if_icmp .ne 7, 3) := by decide +kernel
theorem d2_22 : decode method_2_code 22 = .ok (.getstatic 16, 3) := by decide +kernel
theorem d2_25 : decode method_2_code 25 = .ok (.areturn, 1) := by decide +kernel
theorem d2_26 : decode method_2_code 26 = .ok (.iload_n 0, 1) := by decide +kernel
theorem d2_27 : decode method_2_code 27 = .ok (.iconst 3, 1) := by decide +kernel
theorem d2_28 : decode method_2_code 28 = .ok (.if_icmp .ne 7, 3) := by decide +kernel
theorem d2_31 : decode method_2_code 31 = .ok (.getstatic 19, 3) := by decide +kernel
theorem d2_34 : decode method_2_code 34 = .ok (.areturn, 1) := by decide +kernel
theorem d2_35 : decode method_2_code 35 = .ok (.iload_n 0, 1) := by decide +kernel
theorem d2_36 : decode method_2_code 36 = .ok (.iconst 4, 1) := by decide +kernel
theorem d2_37 : decode method_2_code 37 = .ok (.if_icmp .ne 7, 3) := by decide +kernel
theorem d2_40 : decode method_2_code 40 = .ok (.getstatic 22, 3) := by decide +kernel
theorem d2_43 : decode method_2_code 43 = .ok (.areturn, 1) := by decide +kernel
theorem d2_44 : decode method_2_code 44 = .ok (.iload_n 0, 1) := by decide +kernel
theorem d2_45 : decode method_2_code 45 = .ok (.iconst 5, 1) := by decide +kernel
theorem d2_46 : decode method_2_code 46 = .ok (.if_icmp .ne 7, 3) := by decide +kernel
theorem d2_49 : decode method_2_code 49 = .ok (.getstatic 25, 3) := by decide +kernel
theorem d2_52 : decode method_2_code 52 = .ok (.areturn, 1) := by decide +kernel
theorem d2_53 : decode method_2_code 53 = .ok (.iload_n 0, 1) := by decide +kernel
theorem d2_54 : decode method_2_code 54 = .ok (.bipush 6, 2) := by decide +kernel
theorem d2_56 : decode method_2_code 56 = .ok (.if_icmp .ne 7, 3) := by decide +kernel
theorem d2_59 : decode method_2_code 59 = .ok (.getstatic 28, 3) := by decide +kernel
theorem d2_62 : decode method_2_code 62 = .ok (.areturn, 1) := by decide +kernel
theorem d2_63 : decode method_2_code 63 = .ok (.iload_n 0, 1) := by decide +kernel
theorem d2_64 : decode method_2_code 64 = .ok (.bipush 7, 2) := by decide +kernel
theorem d2_66 : decode method_2_code 66 = .ok (.if_icmp .ne 7, 3) := by decide +kernel
theorem d2_69 : decode method_2_code 69 = .ok (.getstatic 31, 3) := by decide +kernel
theorem d2_72 : decode method_2_code 72 = .ok (.areturn, 1) := by decide +kernel
theorem d2_73 : decode method_2_code 73 = .ok (.iload_n 0, 1) := by decide +kernel
theorem d2_74 : decode method_2_code 74 = .ok (.bipush 8, 2) := by decide +kernel
theorem d2_76 : decode method_2_code 76 = .ok (.if_icmp .ne 7, 3) := by decide +kernel
theorem d2_79 : decode method_2_code 79 = .ok (.getstatic 34, 3) := by decide +kernel
theorem d2_82 : decode method_2_code 82 = .ok (.areturn, 1) := by decide +kernel
theorem d2_83 : decode method_2_code 83 = .ok (.iload_n 0, 1) := by decide +kernel
theorem d2_84 : decode method_2_code 84 = .ok (.bipush 9, 2) := by decide +kernel
theorem d2_86 : decode method_2_code 86 = .ok (.if_icmp .ne 7, 3) := by decide +kernel
theorem d2_89 : decode method_2_code 89 = .ok (.getstatic 37, 3) := by decide +kernel
theorem d2_92 : decode method_2_code 92 = .ok (.areturn, 1) := by decide +kernel
theorem d2_93 : decode method_2_code 93 = .ok (.iload_n 0, 1) := by decide +kernel
theorem d2_94 : decode method_2_code 94 = .ok (.bipush 10, 2) := by decide +kernel
theorem d2_96 : decode method_2_code 96 = .ok (.if_icmp .ne 7, 3) := by decide +kernel
theorem d2_99 : decode method_2_code 99 = .ok (.getstatic 40, 3) := by decide +kernel
theorem d2_102 : decode method_2_code 102 = .ok (.areturn, 1) := by decide +kernel
theorem d2_103 : decode method_2_code 103 = .ok (.iload_n 0, 1) := by decide +kernel
theorem d2_104 : decode method_2_code 104 = .ok (.bipush 11, 2) := by decide +kernel
theorem d2_106 : decode method_2_code 106 = .ok (.if_icmp .ne 7, 3) := by decide +kernel
theorem d2_109 : decode method_2_code 109 = .ok (.getstatic 43, 3) := by decide +kernel
theorem d2_112 : decode method_2_code 112 = .ok (.areturn, 1) := by decide +kernel
theorem d2_113 : decode method_2_code 113 = .ok (.iload_n 0, 1) := by decide +kernel
theorem d2_114 : decode method_2_code 114 = .ok (.bipush 12, 2) := by decide +kernel
theorem d2_116 : decode method_2_code 116 = .ok (.if_icmp .ne 7, 3) := by decide +kernel
theorem d2_119 : decode method_2_code 119 = .ok (.getstatic 46, 3) := by decide +kernel
theorem d2_122 : decode method_2_code 122 = .ok (.areturn, 1) := by decide +kernel
theorem d2_123 : decode method_2_code 123 = .ok (.iload_n 0, 1) := by decide +kernel
theorem d2_124 : decode method_2_code 124 = .ok (.bipush 13, 2) := by decide +kernel
theorem d2_126 : decode method_2_code 126 = .ok (.if_icmp .ne 7, 3) := by decide +kernel
theorem d2_129 : decode method_2_code 129 = .ok (.getstatic 49, 3) := by decide +kernel
theorem d2_132 : decode method_2_code 132 = .ok (.areturn, 1) := by decide +kernel
theorem d2_133 : decode method_2_code 133 = .ok (.iload_n 0, 1) := by decide +kernel
theorem d2_134 : decode method_2_code 134 = .ok (.bipush 14, 2) := by decide +kernel
theorem d2_136 : decode method_2_code 136 = .ok (.if_icmp .ne 7, 3) := by decide +kernel
theorem d2_139 : decode method_2_code 139 = .ok (.getstatic 52, 3) := by decide +kernel
theorem d2_142 : decode method_2_code 142 = .ok (.areturn, 1) := by decide +kernel
theorem d2_143 : decode method_2_code 143 = .ok (.iload_n 0, 1) := by decide +kernel
theorem d2_144 : decode method_2_code 144 = .ok (.bipush 15, 2) := by decide +kernel
theorem d2_146 : decode method_2_code 146 = .ok (.if_icmp .ne 7, 3) := by decide +kernel
theorem d2_149 : decode method_2_code 149 = .ok (.getstatic 55, 3) := by decide +kernel
theorem d2_152 : decode method_2_code 152 = .ok (.areturn, 1) := by decide +kernel
theorem d2_153 : decode method_2_code 153 = .ok (.iload_n 0, 1) := by decide +kernel
theorem d2_154 : decode method_2_code 154 = .ok (.bipush 19, 2) := by decide +kernel
theorem d2_156 : decode method_2_code 156 = .ok (.if_icmp .ne 7, 3) := by decide +kernel
theorem d2_159 : decode method_2_code 159 = .ok (.getstatic 58, 3) := by decide +kernel
theorem d2_162 : decode method_2_code 162 = .ok (.areturn, 1) := by decide +kernel
theorem d2_163 : decode method_2_code 163 = .ok (.aconst_null, 1) := by decide +kernel
theorem d2_164 : decode method_2_code 164 = .ok (.areturn, 1) := by decide +kernel
set_option maxRecDepth 65536 in
set_option maxHeartbeats 40000000 in
theorem rm2 (l : Launch) (Z : State) (a0 : Array Value) (hw : ∀ d ∈ tables_1, d.before a0 Z = true) (ws : List Jvm.Cond) (p0 : Int32) (h0 : Heap)  (w_NULL : Addr) (w_GUID : Addr) (w_STRING : Addr) (w_UINT16 : Addr) (w_INT32 : Addr) (w_INT64 : Addr) (w_BYTE : Addr) (w_BOOLEAN : Addr) (w_SBYTE : Addr) (w_FLOAT : Addr) (w_DOUBLE : Addr) (w_UINT32 : Addr) (w_UINT64 : Addr) (w_INT16 : Addr) (w_DATE_TIME : Addr) (w_BYTE_STRING : Addr) (w_STATUS_CODE : Addr) (S_NULL : Sta Z h0 "com/example/pubframe/pubframe/message/BuiltInType" "NULL" "Lcom/example/pubframe/pubframe/message/BuiltInType;" (.ref w_NULL)) (S_GUID : Sta Z h0 "com/example/pubframe/pubframe/message/BuiltInType" "GUID" "Lcom/example/pubframe/pubframe/message/BuiltInType;" (.ref w_GUID)) (S_STRING : Sta Z h0 "com/example/pubframe/pubframe/message/BuiltInType" "STRING" "Lcom/example/pubframe/pubframe/message/BuiltInType;" (.ref w_STRING)) (S_UINT16 : Sta Z h0 "com/example/pubframe/pubframe/message/BuiltInType" "UINT16" "Lcom/example/pubframe/pubframe/message/BuiltInType;" (.ref w_UINT16)) (S_INT32 : Sta Z h0 "com/example/pubframe/pubframe/message/BuiltInType" "INT32" "Lcom/example/pubframe/pubframe/message/BuiltInType;" (.ref w_INT32)) (S_INT64 : Sta Z h0 "com/example/pubframe/pubframe/message/BuiltInType" "INT64" "Lcom/example/pubframe/pubframe/message/BuiltInType;" (.ref w_INT64)) (S_BYTE : Sta Z h0 "com/example/pubframe/pubframe/message/BuiltInType" "BYTE" "Lcom/example/pubframe/pubframe/message/BuiltInType;" (.ref w_BYTE)) (S_BOOLEAN : Sta Z h0 "com/example/pubframe/pubframe/message/BuiltInType" "BOOLEAN" "Lcom/example/pubframe/pubframe/message/BuiltInType;" (.ref w_BOOLEAN)) (S_SBYTE : Sta Z h0 "com/example/pubframe/pubframe/message/BuiltInType" "SBYTE" "Lcom/example/pubframe/pubframe/message/BuiltInType;" (.ref w_SBYTE)) (S_FLOAT : Sta Z h0 "com/example/pubframe/pubframe/message/BuiltInType" "FLOAT" "Lcom/example/pubframe/pubframe/message/BuiltInType;" (.ref w_FLOAT)) (S_DOUBLE : Sta Z h0 "com/example/pubframe/pubframe/message/BuiltInType" "DOUBLE" "Lcom/example/pubframe/pubframe/message/BuiltInType;" (.ref w_DOUBLE)) (S_UINT32 : Sta Z h0 "com/example/pubframe/pubframe/message/BuiltInType" "UINT32" "Lcom/example/pubframe/pubframe/message/BuiltInType;" (.ref w_UINT32)) (S_UINT64 : Sta Z h0 "com/example/pubframe/pubframe/message/BuiltInType" "UINT64" "Lcom/example/pubframe/pubframe/message/BuiltInType;" (.ref w_UINT64)) (S_INT16 : Sta Z h0 "com/example/pubframe/pubframe/message/BuiltInType" "INT16" "Lcom/example/pubframe/pubframe/message/BuiltInType;" (.ref w_INT16)) (S_DATE_TIME : Sta Z h0 "com/example/pubframe/pubframe/message/BuiltInType" "DATE_TIME" "Lcom/example/pubframe/pubframe/message/BuiltInType;" (.ref w_DATE_TIME)) (S_BYTE_STRING : Sta Z h0 "com/example/pubframe/pubframe/message/BuiltInType" "BYTE_STRING" "Lcom/example/pubframe/pubframe/message/BuiltInType;" (.ref w_BYTE_STRING)) (S_STATUS_CODE : Sta Z h0 "com/example/pubframe/pubframe/message/BuiltInType" "STATUS_CODE" "Lcom/example/pubframe/pubframe/message/BuiltInType;" (.ref w_STATUS_CODE)) :
    Pays l Z (⟨"com/example/pubframe/pubframe/message/BuiltInTypeForIdPinLaw", "expected", "(I)Lcom/example/pubframe/pubframe/message/BuiltInType;"⟩ : MethodName) method_2_code 1 (some (.object "com/example/pubframe/pubframe/message/BuiltInType")) ws ({ frames := 0, cells := 0, slots := 0, locals := 0 } : Room) #[(.int p0)] h0 (RetQ (some (own_exp p0 w_NULL w_GUID w_STRING w_UINT16 w_INT32 w_INT64 w_BYTE w_BOOLEAN w_SBYTE w_FLOAT w_DOUBLE w_UINT32 w_UINT64 w_INT16 w_DATE_TIME w_BYTE_STRING w_STATUS_CODE)) h0) := by
  refine EKit.pays (plainFor_of_name pn_com_example_pubframe_pubframe_message_BuiltInTypeForIdPinLaw) (fun m => ef_rm2 m p0) ?_
  intro p e s m below meth c s₁ hx hby hml hZ hown hnm hret X0 e0 hs0
  refine EKit.iloadN X0 hx rfl (hb hby d2_0) (q := 1) rfl ?_
  by_cases h1 : p0 = (0 : Int32)
  · skip
    refine EKit.ifNo X0 hx (EKit.c_t (teq h1).2) (hb hby d2_1) (q := 4) rfl ?_
    obtain ⟨T1, X1, e1, st1⟩ := getS X0 hx hZ (host := "") hown (hw _ (List.mem_of_getElem? (i := 11) rfl)) Via.refl e0 S_NULL (g := (mkF m 4 #[.val (.int p0)] [])) rfl (hb hby d2_4)
    refine EKit.step st1 ?_
    show EKit.Ends p l e ({ frames := 0, cells := 0, slots := 0, locals := 0 } : Room) s m #[(.int p0)] below meth c ({ frames := 0, cells := 0, slots := 0, locals := 0 } : Room).cells ({ frames := 0, cells := 0, slots := 0, locals := 0 } : Room).slots (RetQ (some (own_exp p0 w_NULL w_GUID w_STRING w_UINT16 w_INT32 w_INT64 w_BYTE w_BOOLEAN w_SBYTE w_FLOAT w_DOUBLE w_UINT32 w_UINT64 w_INT16 w_DATE_TIME w_BYTE_STRING w_STATUS_CODE)) h0) T1 (mkF m 7 #[.val (.int p0)] [(.ref w_NULL)])
    exact EKit.retA X1 hx hret rfl rfl rfl (hb hby d2_7) (⟨by simp [own_exp, h1], e1, rfl⟩) (by decide) (by decide)
  · skip
    refine EKit.ifYes X0 hx (EKit.c_t (feq h1).2) (hb hby d2_1) (by decide) (q := 8) (by decide) ?_
    refine EKit.iloadN X0 hx rfl (hb hby d2_8) (q := 9) rfl ?_
    refine EKit.iconst X0 hx (v := (1 : Int32)) rfl (hb hby d2_9) (q := 10) rfl ?_
    by_cases h10 : p0 = (1 : Int32)
    · skip
      refine EKit.icmpNo X0 hx ((teq h10).2) (hb hby d2_10) (q := 13) rfl ?_
      obtain ⟨T2, X2, e2, st2⟩ := getS X0 hx hZ (host := "") hown (hw _ (List.mem_of_getElem? (i := 25) rfl)) Via.refl e0 S_BOOLEAN (g := (mkF m 13 #[.val (.int p0)] [])) rfl (hb hby d2_13)
      refine EKit.step st2 ?_
      show EKit.Ends p l e ({ frames := 0, cells := 0, slots := 0, locals := 0 } : Room) s m #[(.int p0)] below meth c ({ frames := 0, cells := 0, slots := 0, locals := 0 } : Room).cells ({ frames := 0, cells := 0, slots := 0, locals := 0 } : Room).slots (RetQ (some (own_exp p0 w_NULL w_GUID w_STRING w_UINT16 w_INT32 w_INT64 w_BYTE w_BOOLEAN w_SBYTE w_FLOAT w_DOUBLE w_UINT32 w_UINT64 w_INT16 w_DATE_TIME w_BYTE_STRING w_STATUS_CODE)) h0) T2 (mkF m 16 #[.val (.int p0)] [(.ref w_BOOLEAN)])
      exact EKit.retA X2 hx hret rfl rfl rfl (hb hby d2_16) (⟨by simp [own_exp, h1, h10], e2, rfl⟩) (by decide) (by decide)
    · skip
      refine EKit.icmpYes X0 hx ((feq h10).2) (hb hby d2_10) (by decide) (q := 17) (by decide) ?_
      refine EKit.iloadN X0 hx rfl (hb hby d2_17) (q := 18) rfl ?_
      refine EKit.iconst X0 hx (v := (2 : Int32)) rfl (hb hby d2_18) (q := 19) rfl ?_
      by_cases h19 : p0 = (2 : Int32)
      · skip
        refine EKit.icmpNo X0 hx ((teq h19).2) (hb hby d2_19) (q := 22) rfl ?_
        obtain ⟨T3, X3, e3, st3⟩ := getS X0 hx hZ (host := "") hown (hw _ (List.mem_of_getElem? (i := 27) rfl)) Via.refl e0 S_SBYTE (g := (mkF m 22 #[.val (.int p0)] [])) rfl (hb hby d2_22)
        refine EKit.step st3 ?_
        show EKit.Ends p l e ({ frames := 0, cells := 0, slots := 0, locals := 0 } : Room) s m #[(.int p0)] below meth c ({ frames := 0, cells := 0, slots := 0, locals := 0 } : Room).cells ({ frames := 0, cells := 0, slots := 0, locals := 0 } : Room).slots (RetQ (some (own_exp p0 w_NULL w_GUID w_STRING w_UINT16 w_INT32 w_INT64 w_BYTE w_BOOLEAN w_SBYTE w_FLOAT w_DOUBLE w_UINT32 w_UINT64 w_INT16 w_DATE_TIME w_BYTE_STRING w_STATUS_CODE)) h0) T3 (mkF m 25 #[.val (.int p0)] [(.ref w_SBYTE)])
        exact EKit.retA X3 hx hret rfl rfl rfl (hb hby d2_25) (⟨by simp [own_exp, h1, h10, h19], e3, rfl⟩) (by decide) (by decide)
      · skip
        refine EKit.icmpYes X0 hx ((feq h19).2) (hb hby d2_19) (by decide) (q := 26) (by decide) ?_
        refine EKit.iloadN X0 hx rfl (hb hby d2_26) (q := 27) rfl ?_
        refine EKit.iconst X0 hx (v := (3 : Int32)) rfl (hb hby d2_27) (q := 28) rfl ?_
        by_cases h28 : p0 = (3 : Int32)
        · skip
          refine EKit.icmpNo X0 hx ((teq h28).2) (hb hby d2_28) (q := 31) rfl ?_
          obtain ⟨T4, X4, e4, st4⟩ := getS X0 hx hZ (host := "") hown (hw _ (List.mem_of_getElem? (i := 23) rfl)) Via.refl e0 S_BYTE (g := (mkF m 31 #[.val (.int p0)] [])) rfl (hb hby d2_31)
          refine EKit.step st4 ?_
          show EKit.Ends p l e ({ frames := 0, cells := 0, slots := 0, locals := 0 } : Room) s m #[(.int p0)] below meth c ({ frames := 0, cells := 0, slots := 0, locals := 0 } : Room).cells ({ frames := 0, cells := 0, slots := 0, locals := 0 } : Room).slots (RetQ (some (own_exp p0 w_NULL w_GUID w_STRING w_UINT16 w_INT32 w_INT64 w_BYTE w_BOOLEAN w_SBYTE w_FLOAT w_DOUBLE w_UINT32 w_UINT64 w_INT16 w_DATE_TIME w_BYTE_STRING w_STATUS_CODE)) h0) T4 (mkF m 34 #[.val (.int p0)] [(.ref w_BYTE)])
          exact EKit.retA X4 hx hret rfl rfl rfl (hb hby d2_34) (⟨by simp [own_exp, h1, h10, h19, h28], e4, rfl⟩) (by decide) (by decide)
        · skip
          refine EKit.icmpYes X0 hx ((feq h28).2) (hb hby d2_28) (by decide) (q := 35) (by decide) ?_
          refine EKit.iloadN X0 hx rfl (hb hby d2_35) (q := 36) rfl ?_
          refine EKit.iconst X0 hx (v := (4 : Int32)) rfl (hb hby d2_36) (q := 37) rfl ?_
          by_cases h37 : p0 = (4 : Int32)
          · skip
            refine EKit.icmpNo X0 hx ((teq h37).2) (hb hby d2_37) (q := 40) rfl ?_
            obtain ⟨T5, X5, e5, st5⟩ := getS X0 hx hZ (host := "") hown (hw _ (List.mem_of_getElem? (i := 37) rfl)) Via.refl e0 S_INT16 (g := (mkF m 40 #[.val (.int p0)] [])) rfl (hb hby d2_40)
            refine EKit.step st5 ?_
            show EKit.Ends p l e ({ frames := 0, cells := 0, slots := 0, locals := 0 } : Room) s m #[(.int p0)] below meth c ({ frames := 0, cells := 0, slots := 0, locals := 0 } : Room).cells ({ frames := 0, cells := 0, slots := 0, locals := 0 } : Room).slots (RetQ (some (own_exp p0 w_NULL w_GUID w_STRING w_UINT16 w_INT32 w_INT64 w_BYTE w_BOOLEAN w_SBYTE w_FLOAT w_DOUBLE w_UINT32 w_UINT64 w_INT16 w_DATE_TIME w_BYTE_STRING w_STATUS_CODE)) h0) T5 (mkF m 43 #[.val (.int p0)] [(.ref w_INT16)])
            exact EKit.retA X5 hx hret rfl rfl rfl (hb hby d2_43) (⟨by simp [own_exp, h1, h10, h19, h28, h37], e5, rfl⟩) (by decide) (by decide)
          · skip
            refine EKit.icmpYes X0 hx ((feq h37).2) (hb hby d2_37) (by decide) (q := 44) (by decide) ?_
            refine EKit.iloadN X0 hx rfl (hb hby d2_44) (q := 45) rfl ?_
            refine EKit.iconst X0 hx (v := (5 : Int32)) rfl (hb hby d2_45) (q := 46) rfl ?_
            by_cases h46 : p0 = (5 : Int32)
            · skip
              refine EKit.icmpNo X0 hx ((teq h46).2) (hb hby d2_46) (q := 49) rfl ?_
              obtain ⟨T6, X6, e6, st6⟩ := getS X0 hx hZ (host := "") hown (hw _ (List.mem_of_getElem? (i := 17) rfl)) Via.refl e0 S_UINT16 (g := (mkF m 49 #[.val (.int p0)] [])) rfl (hb hby d2_49)
              refine EKit.step st6 ?_
              show EKit.Ends p l e ({ frames := 0, cells := 0, slots := 0, locals := 0 } : Room) s m #[(.int p0)] below meth c ({ frames := 0, cells := 0, slots := 0, locals := 0 } : Room).cells ({ frames := 0, cells := 0, slots := 0, locals := 0 } : Room).slots (RetQ (some (own_exp p0 w_NULL w_GUID w_STRING w_UINT16 w_INT32 w_INT64 w_BYTE w_BOOLEAN w_SBYTE w_FLOAT w_DOUBLE w_UINT32 w_UINT64 w_INT16 w_DATE_TIME w_BYTE_STRING w_STATUS_CODE)) h0) T6 (mkF m 52 #[.val (.int p0)] [(.ref w_UINT16)])
              exact EKit.retA X6 hx hret rfl rfl rfl (hb hby d2_52) (⟨by simp [own_exp, h1, h10, h19, h28, h37, h46], e6, rfl⟩) (by decide) (by decide)
            · skip
              refine EKit.icmpYes X0 hx ((feq h46).2) (hb hby d2_46) (by decide) (q := 53) (by decide) ?_
              refine EKit.iloadN X0 hx rfl (hb hby d2_53) (q := 54) rfl ?_
              refine EKit.bipush X0 hx (v := (6 : Int32)) rfl (hb hby d2_54) (q := 56) rfl ?_
              by_cases h56 : p0 = (6 : Int32)
              · skip
                refine EKit.icmpNo X0 hx ((teq h56).2) (hb hby d2_56) (q := 59) rfl ?_
                obtain ⟨T7, X7, e7, st7⟩ := getS X0 hx hZ (host := "") hown (hw _ (List.mem_of_getElem? (i := 19) rfl)) Via.refl e0 S_INT32 (g := (mkF m 59 #[.val (.int p0)] [])) rfl (hb hby d2_59)
                refine EKit.step st7 ?_
                show EKit.Ends p l e ({ frames := 0, cells := 0, slots := 0, locals := 0 } : Room) s m #[(.int p0)] below meth c ({ frames := 0, cells := 0, slots := 0, locals := 0 } : Room).cells ({ frames := 0, cells := 0, slots := 0, locals := 0 } : Room).slots (RetQ (some (own_exp p0 w_NULL w_GUID w_STRING w_UINT16 w_INT32 w_INT64 w_BYTE w_BOOLEAN w_SBYTE w_FLOAT w_DOUBLE w_UINT32 w_UINT64 w_INT16 w_DATE_TIME w_BYTE_STRING w_STATUS_CODE)) h0) T7 (mkF m 62 #[.val (.int p0)] [(.ref w_INT32)])
                exact EKit.retA X7 hx hret rfl rfl rfl (hb hby d2_62) (⟨by simp [own_exp, h1, h10, h19, h28, h37, h46, h56], e7, rfl⟩) (by decide) (by decide)
              · skip
                refine EKit.icmpYes X0 hx ((feq h56).2) (hb hby d2_56) (by decide) (q := 63) (by decide) ?_
                refine EKit.iloadN X0 hx rfl (hb hby d2_63) (q := 64) rfl ?_
                refine EKit.bipush X0 hx (v := (7 : Int32)) rfl (hb hby d2_64) (q := 66) rfl ?_
                by_cases h66 : p0 = (7 : Int32)
                · skip
                  refine EKit.icmpNo X0 hx ((teq h66).2) (hb hby d2_66) (q := 69) rfl ?_
                  obtain ⟨T8, X8, e8, st8⟩ := getS X0 hx hZ (host := "") hown (hw _ (List.mem_of_getElem? (i := 33) rfl)) Via.refl e0 S_UINT32 (g := (mkF m 69 #[.val (.int p0)] [])) rfl (hb hby d2_69)
                  refine EKit.step st8 ?_
                  show EKit.Ends p l e ({ frames := 0, cells := 0, slots := 0, locals := 0 } : Room) s m #[(.int p0)] below meth c ({ frames := 0, cells := 0, slots := 0, locals := 0 } : Room).cells ({ frames := 0, cells := 0, slots := 0, locals := 0 } : Room).slots (RetQ (some (own_exp p0 w_NULL w_GUID w_STRING w_UINT16 w_INT32 w_INT64 w_BYTE w_BOOLEAN w_SBYTE w_FLOAT w_DOUBLE w_UINT32 w_UINT64 w_INT16 w_DATE_TIME w_BYTE_STRING w_STATUS_CODE)) h0) T8 (mkF m 72 #[.val (.int p0)] [(.ref w_UINT32)])
                  exact EKit.retA X8 hx hret rfl rfl rfl (hb hby d2_72) (⟨by simp [own_exp, h1, h10, h19, h28, h37, h46, h56, h66], e8, rfl⟩) (by decide) (by decide)
                · skip
                  refine EKit.icmpYes X0 hx ((feq h66).2) (hb hby d2_66) (by decide) (q := 73) (by decide) ?_
                  refine EKit.iloadN X0 hx rfl (hb hby d2_73) (q := 74) rfl ?_
                  refine EKit.bipush X0 hx (v := (8 : Int32)) rfl (hb hby d2_74) (q := 76) rfl ?_
                  by_cases h76 : p0 = (8 : Int32)
                  · skip
                    refine EKit.icmpNo X0 hx ((teq h76).2) (hb hby d2_76) (q := 79) rfl ?_
                    obtain ⟨T9, X9, e9, st9⟩ := getS X0 hx hZ (host := "") hown (hw _ (List.mem_of_getElem? (i := 21) rfl)) Via.refl e0 S_INT64 (g := (mkF m 79 #[.val (.int p0)] [])) rfl (hb hby d2_79)
                    refine EKit.step st9 ?_
                    show EKit.Ends p l e ({ frames := 0, cells := 0, slots := 0, locals := 0 } : Room) s m #[(.int p0)] below meth c ({ frames := 0, cells := 0, slots := 0, locals := 0 } : Room).cells ({ frames := 0, cells := 0, slots := 0, locals := 0 } : Room).slots (RetQ (some (own_exp p0 w_NULL w_GUID w_STRING w_UINT16 w_INT32 w_INT64 w_BYTE w_BOOLEAN w_SBYTE w_FLOAT w_DOUBLE w_UINT32 w_UINT64 w_INT16 w_DATE_TIME w_BYTE_STRING w_STATUS_CODE)) h0) T9 (mkF m 82 #[.val (.int p0)] [(.ref w_INT64)])
                    exact EKit.retA X9 hx hret rfl rfl rfl (hb hby d2_82) (⟨by simp [own_exp, h1, h10, h19, h28, h37, h46, h56, h66, h76], e9, rfl⟩) (by decide) (by decide)
                  · skip
                    refine EKit.icmpYes X0 hx ((feq h76).2) (hb hby d2_76) (by decide) (q := 83) (by decide) ?_
                    refine EKit.iloadN X0 hx rfl (hb hby d2_83) (q := 84) rfl ?_
                    refine EKit.bipush X0 hx (v := (9 : Int32)) rfl (hb hby d2_84) (q := 86) rfl ?_
                    by_cases h86 : p0 = (9 : Int32)
                    · skip
                      refine EKit.icmpNo X0 hx ((teq h86).2) (hb hby d2_86) (q := 89) rfl ?_
                      obtain ⟨T10, X10, e10, st10⟩ := getS X0 hx hZ (host := "") hown (hw _ (List.mem_of_getElem? (i := 35) rfl)) Via.refl e0 S_UINT64 (g := (mkF m 89 #[.val (.int p0)] [])) rfl (hb hby d2_89)
                      refine EKit.step st10 ?_
                      show EKit.Ends p l e ({ frames := 0, cells := 0, slots := 0, locals := 0 } : Room) s m #[(.int p0)] below meth c ({ frames := 0, cells := 0, slots := 0, locals := 0 } : Room).cells ({ frames := 0, cells := 0, slots := 0, locals := 0 } : Room).slots (RetQ (some (own_exp p0 w_NULL w_GUID w_STRING w_UINT16 w_INT32 w_INT64 w_BYTE w_BOOLEAN w_SBYTE w_FLOAT w_DOUBLE w_UINT32 w_UINT64 w_INT16 w_DATE_TIME w_BYTE_STRING w_STATUS_CODE)) h0) T10 (mkF m 92 #[.val (.int p0)] [(.ref w_UINT64)])
                      exact EKit.retA X10 hx hret rfl rfl rfl (hb hby d2_92) (⟨by simp [own_exp, h1, h10, h19, h28, h37, h46, h56, h66, h76, h86], e10, rfl⟩) (by decide) (by decide)
                    · skip
                      refine EKit.icmpYes X0 hx ((feq h86).2) (hb hby d2_86) (by decide) (q := 93) (by decide) ?_
                      refine EKit.iloadN X0 hx rfl (hb hby d2_93) (q := 94) rfl ?_
                      refine EKit.bipush X0 hx (v := (10 : Int32)) rfl (hb hby d2_94) (q := 96) rfl ?_
                      by_cases h96 : p0 = (10 : Int32)
                      · skip
                        refine EKit.icmpNo X0 hx ((teq h96).2) (hb hby d2_96) (q := 99) rfl ?_
                        obtain ⟨T11, X11, e11, st11⟩ := getS X0 hx hZ (host := "") hown (hw _ (List.mem_of_getElem? (i := 29) rfl)) Via.refl e0 S_FLOAT (g := (mkF m 99 #[.val (.int p0)] [])) rfl (hb hby d2_99)
                        refine EKit.step st11 ?_
                        show EKit.Ends p l e ({ frames := 0, cells := 0, slots := 0, locals := 0 } : Room) s m #[(.int p0)] below meth c ({ frames := 0, cells := 0, slots := 0, locals := 0 } : Room).cells ({ frames := 0, cells := 0, slots := 0, locals := 0 } : Room).slots (RetQ (some (own_exp p0 w_NULL w_GUID w_STRING w_UINT16 w_INT32 w_INT64 w_BYTE w_BOOLEAN w_SBYTE w_FLOAT w_DOUBLE w_UINT32 w_UINT64 w_INT16 w_DATE_TIME w_BYTE_STRING w_STATUS_CODE)) h0) T11 (mkF m 102 #[.val (.int p0)] [(.ref w_FLOAT)])
                        exact EKit.retA X11 hx hret rfl rfl rfl (hb hby d2_102) (⟨by simp [own_exp, h1, h10, h19, h28, h37, h46, h56, h66, h76, h86, h96], e11, rfl⟩) (by decide) (by decide)
                      · skip
                        refine EKit.icmpYes X0 hx ((feq h96).2) (hb hby d2_96) (by decide) (q := 103) (by decide) ?_
                        refine EKit.iloadN X0 hx rfl (hb hby d2_103) (q := 104) rfl ?_
                        refine EKit.bipush X0 hx (v := (11 : Int32)) rfl (hb hby d2_104) (q := 106) rfl ?_
                        by_cases h106 : p0 = (11 : Int32)
                        · skip
                          refine EKit.icmpNo X0 hx ((teq h106).2) (hb hby d2_106) (q := 109) rfl ?_
                          obtain ⟨T12, X12, e12, st12⟩ := getS X0 hx hZ (host := "") hown (hw _ (List.mem_of_getElem? (i := 31) rfl)) Via.refl e0 S_DOUBLE (g := (mkF m 109 #[.val (.int p0)] [])) rfl (hb hby d2_109)
                          refine EKit.step st12 ?_
                          show EKit.Ends p l e ({ frames := 0, cells := 0, slots := 0, locals := 0 } : Room) s m #[(.int p0)] below meth c ({ frames := 0, cells := 0, slots := 0, locals := 0 } : Room).cells ({ frames := 0, cells := 0, slots := 0, locals := 0 } : Room).slots (RetQ (some (own_exp p0 w_NULL w_GUID w_STRING w_UINT16 w_INT32 w_INT64 w_BYTE w_BOOLEAN w_SBYTE w_FLOAT w_DOUBLE w_UINT32 w_UINT64 w_INT16 w_DATE_TIME w_BYTE_STRING w_STATUS_CODE)) h0) T12 (mkF m 112 #[.val (.int p0)] [(.ref w_DOUBLE)])
                          exact EKit.retA X12 hx hret rfl rfl rfl (hb hby d2_112) (⟨by simp [own_exp, h1, h10, h19, h28, h37, h46, h56, h66, h76, h86, h96, h106], e12, rfl⟩) (by decide) (by decide)
                        · skip
                          refine EKit.icmpYes X0 hx ((feq h106).2) (hb hby d2_106) (by decide) (q := 113) (by decide) ?_
                          refine EKit.iloadN X0 hx rfl (hb hby d2_113) (q := 114) rfl ?_
                          refine EKit.bipush X0 hx (v := (12 : Int32)) rfl (hb hby d2_114) (q := 116) rfl ?_
                          by_cases h116 : p0 = (12 : Int32)
                          · skip
                            refine EKit.icmpNo X0 hx ((teq h116).2) (hb hby d2_116) (q := 119) rfl ?_
                            obtain ⟨T13, X13, e13, st13⟩ := getS X0 hx hZ (host := "") hown (hw _ (List.mem_of_getElem? (i := 15) rfl)) Via.refl e0 S_STRING (g := (mkF m 119 #[.val (.int p0)] [])) rfl (hb hby d2_119)
                            refine EKit.step st13 ?_
                            show EKit.Ends p l e ({ frames := 0, cells := 0, slots := 0, locals := 0 } : Room) s m #[(.int p0)] below meth c ({ frames := 0, cells := 0, slots := 0, locals := 0 } : Room).cells ({ frames := 0, cells := 0, slots := 0, locals := 0 } : Room).slots (RetQ (some (own_exp p0 w_NULL w_GUID w_STRING w_UINT16 w_INT32 w_INT64 w_BYTE w_BOOLEAN w_SBYTE w_FLOAT w_DOUBLE w_UINT32 w_UINT64 w_INT16 w_DATE_TIME w_BYTE_STRING w_STATUS_CODE)) h0) T13 (mkF m 122 #[.val (.int p0)] [(.ref w_STRING)])
                            exact EKit.retA X13 hx hret rfl rfl rfl (hb hby d2_122) (⟨by simp [own_exp, h1, h10, h19, h28, h37, h46, h56, h66, h76, h86, h96, h106, h116], e13, rfl⟩) (by decide) (by decide)
                          · skip
                            refine EKit.icmpYes X0 hx ((feq h116).2) (hb hby d2_116) (by decide) (q := 123) (by decide) ?_
                            refine EKit.iloadN X0 hx rfl (hb hby d2_123) (q := 124) rfl ?_
                            refine EKit.bipush X0 hx (v := (13 : Int32)) rfl (hb hby d2_124) (q := 126) rfl ?_
                            by_cases h126 : p0 = (13 : Int32)
                            · skip
                              refine EKit.icmpNo X0 hx ((teq h126).2) (hb hby d2_126) (q := 129) rfl ?_
                              obtain ⟨T14, X14, e14, st14⟩ := getS X0 hx hZ (host := "") hown (hw _ (List.mem_of_getElem? (i := 39) rfl)) Via.refl e0 S_DATE_TIME (g := (mkF m 129 #[.val (.int p0)] [])) rfl (hb hby d2_129)
                              refine EKit.step st14 ?_
                              show EKit.Ends p l e ({ frames := 0, cells := 0, slots := 0, locals := 0 } : Room) s m #[(.int p0)] below meth c ({ frames := 0, cells := 0, slots := 0, locals := 0 } : Room).cells ({ frames := 0, cells := 0, slots := 0, locals := 0 } : Room).slots (RetQ (some (own_exp p0 w_NULL w_GUID w_STRING w_UINT16 w_INT32 w_INT64 w_BYTE w_BOOLEAN w_SBYTE w_FLOAT w_DOUBLE w_UINT32 w_UINT64 w_INT16 w_DATE_TIME w_BYTE_STRING w_STATUS_CODE)) h0) T14 (mkF m 132 #[.val (.int p0)] [(.ref w_DATE_TIME)])
                              exact EKit.retA X14 hx hret rfl rfl rfl (hb hby d2_132) (⟨by simp [own_exp, h1, h10, h19, h28, h37, h46, h56, h66, h76, h86, h96, h106, h116, h126], e14, rfl⟩) (by decide) (by decide)
                            · skip
                              refine EKit.icmpYes X0 hx ((feq h126).2) (hb hby d2_126) (by decide) (q := 133) (by decide) ?_
                              refine EKit.iloadN X0 hx rfl (hb hby d2_133) (q := 134) rfl ?_
                              refine EKit.bipush X0 hx (v := (14 : Int32)) rfl (hb hby d2_134) (q := 136) rfl ?_
                              by_cases h136 : p0 = (14 : Int32)
                              · skip
                                refine EKit.icmpNo X0 hx ((teq h136).2) (hb hby d2_136) (q := 139) rfl ?_
                                obtain ⟨T15, X15, e15, st15⟩ := getS X0 hx hZ (host := "") hown (hw _ (List.mem_of_getElem? (i := 13) rfl)) Via.refl e0 S_GUID (g := (mkF m 139 #[.val (.int p0)] [])) rfl (hb hby d2_139)
                                refine EKit.step st15 ?_
                                show EKit.Ends p l e ({ frames := 0, cells := 0, slots := 0, locals := 0 } : Room) s m #[(.int p0)] below meth c ({ frames := 0, cells := 0, slots := 0, locals := 0 } : Room).cells ({ frames := 0, cells := 0, slots := 0, locals := 0 } : Room).slots (RetQ (some (own_exp p0 w_NULL w_GUID w_STRING w_UINT16 w_INT32 w_INT64 w_BYTE w_BOOLEAN w_SBYTE w_FLOAT w_DOUBLE w_UINT32 w_UINT64 w_INT16 w_DATE_TIME w_BYTE_STRING w_STATUS_CODE)) h0) T15 (mkF m 142 #[.val (.int p0)] [(.ref w_GUID)])
                                exact EKit.retA X15 hx hret rfl rfl rfl (hb hby d2_142) (⟨by simp [own_exp, h1, h10, h19, h28, h37, h46, h56, h66, h76, h86, h96, h106, h116, h126, h136], e15, rfl⟩) (by decide) (by decide)
                              · skip
                                refine EKit.icmpYes X0 hx ((feq h136).2) (hb hby d2_136) (by decide) (q := 143) (by decide) ?_
                                refine EKit.iloadN X0 hx rfl (hb hby d2_143) (q := 144) rfl ?_
                                refine EKit.bipush X0 hx (v := (15 : Int32)) rfl (hb hby d2_144) (q := 146) rfl ?_
                                by_cases h146 : p0 = (15 : Int32)
                                · skip
                                  refine EKit.icmpNo X0 hx ((teq h146).2) (hb hby d2_146) (q := 149) rfl ?_
                                  obtain ⟨T16, X16, e16, st16⟩ := getS X0 hx hZ (host := "") hown (hw _ (List.mem_of_getElem? (i := 41) rfl)) Via.refl e0 S_BYTE_STRING (g := (mkF m 149 #[.val (.int p0)] [])) rfl (hb hby d2_149)
                                  refine EKit.step st16 ?_
                                  show EKit.Ends p l e ({ frames := 0, cells := 0, slots := 0, locals := 0 } : Room) s m #[(.int p0)] below meth c ({ frames := 0, cells := 0, slots := 0, locals := 0 } : Room).cells ({ frames := 0, cells := 0, slots := 0, locals := 0 } : Room).slots (RetQ (some (own_exp p0 w_NULL w_GUID w_STRING w_UINT16 w_INT32 w_INT64 w_BYTE w_BOOLEAN w_SBYTE w_FLOAT w_DOUBLE w_UINT32 w_UINT64 w_INT16 w_DATE_TIME w_BYTE_STRING w_STATUS_CODE)) h0) T16 (mkF m 152 #[.val (.int p0)] [(.ref w_BYTE_STRING)])
                                  exact EKit.retA X16 hx hret rfl rfl rfl (hb hby d2_152) (⟨by simp [own_exp, h1, h10, h19, h28, h37, h46, h56, h66, h76, h86, h96, h106, h116, h126, h136, h146], e16, rfl⟩) (by decide) (by decide)
                                · skip
                                  refine EKit.icmpYes X0 hx ((feq h146).2) (hb hby d2_146) (by decide) (q := 153) (by decide) ?_
                                  refine EKit.iloadN X0 hx rfl (hb hby d2_153) (q := 154) rfl ?_
                                  refine EKit.bipush X0 hx (v := (19 : Int32)) rfl (hb hby d2_154) (q := 156) rfl ?_
                                  by_cases h156 : p0 = (19 : Int32)
                                  · skip
                                    refine EKit.icmpNo X0 hx ((teq h156).2) (hb hby d2_156) (q := 159) rfl ?_
                                    obtain ⟨T17, X17, e17, st17⟩ := getS X0 hx hZ (host := "") hown (hw _ (List.mem_of_getElem? (i := 43) rfl)) Via.refl e0 S_STATUS_CODE (g := (mkF m 159 #[.val (.int p0)] [])) rfl (hb hby d2_159)
                                    refine EKit.step st17 ?_
                                    show EKit.Ends p l e ({ frames := 0, cells := 0, slots := 0, locals := 0 } : Room) s m #[(.int p0)] below meth c ({ frames := 0, cells := 0, slots := 0, locals := 0 } : Room).cells ({ frames := 0, cells := 0, slots := 0, locals := 0 } : Room).slots (RetQ (some (own_exp p0 w_NULL w_GUID w_STRING w_UINT16 w_INT32 w_INT64 w_BYTE w_BOOLEAN w_SBYTE w_FLOAT w_DOUBLE w_UINT32 w_UINT64 w_INT16 w_DATE_TIME w_BYTE_STRING w_STATUS_CODE)) h0) T17 (mkF m 162 #[.val (.int p0)] [(.ref w_STATUS_CODE)])
                                    exact EKit.retA X17 hx hret rfl rfl rfl (hb hby d2_162) (⟨by simp [own_exp, h1, h10, h19, h28, h37, h46, h56, h66, h76, h86, h96, h106, h116, h126, h136, h146, h156], e17, rfl⟩) (by decide) (by decide)
                                  · skip
                                    refine EKit.icmpYes X0 hx ((feq h156).2) (hb hby d2_156) (by decide) (q := 163) (by decide) ?_
                                    refine EKit.aconstNull X0 hx  (hb hby d2_163) (q := 164) rfl ?_
                                    exact EKit.retA X0 hx hret rfl rfl rfl (hb hby d2_164) (⟨by simp [own_exp, h1, h10, h19, h28, h37, h46, h56, h66, h76, h86, h96, h106, h116, h126, h136, h146, h156], e0, rfl⟩) (by decide) (by decide)
theorem own_out (i : Int32) (w_NULL : Addr) (w_GUID : Addr) (w_STRING : Addr) (w_UINT16 : Addr) (w_INT32 : Addr) (w_INT64 : Addr) (w_BYTE : Addr) (w_BOOLEAN : Addr) (w_SBYTE : Addr) (w_FLOAT : Addr) (w_DOUBLE : Addr) (w_UINT32 : Addr) (w_UINT64 : Addr) (w_INT16 : Addr) (w_DATE_TIME : Addr) (w_BYTE_STRING : Addr) (w_STATUS_CODE : Addr) (h : i < 0 ∨ ¬ i < 64) : own_exp i w_NULL w_GUID w_STRING w_UINT16 w_INT32 w_INT64 w_BYTE w_BOOLEAN w_SBYTE w_FLOAT w_DOUBLE w_UINT32 w_UINT64 w_INT16 w_DATE_TIME w_BYTE_STRING w_STATUS_CODE = .null := by
  have e : ∀ k : Int32, i = k ↔ i.toInt = k.toInt := fun k => Int32.toInt_inj.symm
  simp only [Int32.lt_iff_toInt_lt, show (0 : Int32).toInt = 0 from rfl, show (64 : Int32).toInt = 64 from rfl] at h
  unfold own_exp
  rw [if_neg (fun z => by rw [e 0, show (0 : Int32).toInt = 0 from rfl] at z; omega)]
  rw [if_neg (fun z => by rw [e 1, show (1 : Int32).toInt = 1 from rfl] at z; omega)]
  rw [if_neg (fun z => by rw [e 2, show (2 : Int32).toInt = 2 from rfl] at z; omega)]
  rw [if_neg (fun z => by rw [e 3, show (3 : Int32).toInt = 3 from rfl] at z; omega)]
  rw [if_neg (fun z => by rw [e 4, show (4 : Int32).toInt = 4 from rfl] at z; omega)]
  rw [if_neg (fun z => by rw [e 5, show (5 : Int32).toInt = 5 from rfl] at z; omega)]
  rw [if_neg (fun z => by rw [e 6, show (6 : Int32).toInt = 6 from rfl] at z; omega)]
  rw [if_neg (fun z => by rw [e 7, show (7 : Int32).toInt = 7 from rfl] at z; omega)]
  rw [if_neg (fun z => by rw [e 8, show (8 : Int32).toInt = 8 from rfl] at z; omega)]
  rw [if_neg (fun z => by rw [e 9, show (9 : Int32).toInt = 9 from rfl] at z; omega)]
  rw [if_neg (fun z => by rw [e 10, show (10 : Int32).toInt = 10 from rfl] at z; omega)]
  rw [if_neg (fun z => by rw [e 11, show (11 : Int32).toInt = 11 from rfl] at z; omega)]
  rw [if_neg (fun z => by rw [e 12, show (12 : Int32).toInt = 12 from rfl] at z; omega)]
  rw [if_neg (fun z => by rw [e 13, show (13 : Int32).toInt = 13 from rfl] at z; omega)]
  rw [if_neg (fun z => by rw [e 14, show (14 : Int32).toInt = 14 from rfl] at z; omega)]
  rw [if_neg (fun z => by rw [e 15, show (15 : Int32).toInt = 15 from rfl] at z; omega)]
  rw [if_neg (fun z => by rw [e 19, show (19 : Int32).toInt = 19 from rfl] at z; omega)]
theorem ef_rm1 (m : MethodId) (x0 : Int32) : entryFrame m #[(.int x0)] 1 = mkF m 0 #[.val (.int x0)] [] := by first | (simp [entryFrame, mkF, argsToLocals, Value.category]; done) | rfl
theorem pn_com_example_pubframe_pubframe_message_BuiltInType : plainName "com/example/pubframe/pubframe/message/BuiltInType" = true := by first | (simp [plainName, overriddenIn]; done) | decide +kernel
theorem d1_0 : decode prog_26_method_4_code 0 = .ok (.iload_n 0, 1) := by decide +kernel
theorem d1_1 : decode prog_26_method_4_code 1 = .ok (.ifCond .lt 19, 3) := by decide +kernel
theorem d1_20 : decode prog_26_method_4_code 20 = .ok (.aconst_null, 1) := by decide +kernel
theorem d1_21 : decode prog_26_method_4_code 21 = .ok (.areturn, 1) := by decide +kernel
theorem d1_4 : decode prog_26_method_4_code 4 = .ok (.iload_n 0, 1) := by decide +kernel
theorem d1_5 : decode prog_26_method_4_code 5 = .ok (.getstatic 86, 3) := by decide +kernel
theorem d1_8 : decode prog_26_method_4_code 8 = .ok (.arraylength, 1) := by decide +kernel
theorem d1_9 : decode prog_26_method_4_code 9 = .ok (.if_icmp .ge 11, 3) := by decide +kernel
theorem d1_12 : decode prog_26_method_4_code 12 = .ok (.getstatic 86, 3) := by decide +kernel
theorem d1_15 : decode prog_26_method_4_code 15 = .ok (.iload_n 0, 1) := by decide +kernel
theorem d1_16 : decode prog_26_method_4_code 16 = .ok (.aaload, 1) := by decide +kernel
theorem d1_17 : decode prog_26_method_4_code 17 = .ok (.goto 4, 3) := by decide +kernel
set_option maxRecDepth 65536 in
set_option maxHeartbeats 40000000 in
theorem rm1 (l : Launch) (Z : State) (a0 : Array Value) (hw : ∀ d ∈ tables_1, d.before a0 Z = true) (ws : List Jvm.Cond) (p0 : Int32) (h0 : Heap)  (w_NULL : Addr) (w_GUID : Addr) (w_STRING : Addr) (w_UINT16 : Addr) (w_INT32 : Addr) (w_INT64 : Addr) (w_BYTE : Addr) (w_BOOLEAN : Addr) (w_SBYTE : Addr) (w_FLOAT : Addr) (w_DOUBLE : Addr) (w_UINT32 : Addr) (w_UINT64 : Addr) (w_INT16 : Addr) (w_DATE_TIME : Addr) (w_BYTE_STRING : Addr) (w_STATUS_CODE : Addr) (w_BY : Addr) (kk : ClassId) (S_BY : Sta Z h0 "com/example/pubframe/pubframe/message/BuiltInType" "BY_ID" "[Lcom/example/pubframe/pubframe/message/BuiltInType;" (.ref w_BY)) (A_BY : Ary Z h0 w_BY kk (.object "com/example/pubframe/pubframe/message/BuiltInType") (64 : Int32) (fun j => own_exp j w_NULL w_GUID w_STRING w_UINT16 w_INT32 w_INT64 w_BYTE w_BOOLEAN w_SBYTE w_FLOAT w_DOUBLE w_UINT32 w_UINT64 w_INT16 w_DATE_TIME w_BYTE_STRING w_STATUS_CODE)) :
    Pays l Z (⟨"com/example/pubframe/pubframe/message/BuiltInType", "forId", "(I)Lcom/example/pubframe/pubframe/message/BuiltInType;"⟩ : MethodName) prog_26_method_4_code 1 (some (.object "com/example/pubframe/pubframe/message/BuiltInType")) ws ({ frames := 0, cells := 0, slots := 0, locals := 0 } : Room) #[(.int p0)] h0 (RetQ (some (own_exp p0 w_NULL w_GUID w_STRING w_UINT16 w_INT32 w_INT64 w_BYTE w_BOOLEAN w_SBYTE w_FLOAT w_DOUBLE w_UINT32 w_UINT64 w_INT16 w_DATE_TIME w_BYTE_STRING w_STATUS_CODE)) h0) := by
  refine EKit.pays (plainFor_of_name pn_com_example_pubframe_pubframe_message_BuiltInType) (fun m => ef_rm1 m p0) ?_
  intro p e s m below meth c s₁ hx hby hml hZ hown hnm hret X0 e0 hs0
  refine EKit.iloadN X0 hx rfl (hb hby d1_0) (q := 1) rfl ?_
  by_cases h1 : p0 < (0 : Int32)
  · skip
    refine EKit.ifYes X0 hx (EKit.c_t (tlt h1).1) (hb hby d1_1) (by decide) (q := 20) (by decide) ?_
    refine EKit.aconstNull X0 hx  (hb hby d1_20) (q := 21) rfl ?_
    exact EKit.retA X0 hx hret rfl rfl rfl (hb hby d1_21) (⟨congrArg some (own_out p0 w_NULL w_GUID w_STRING w_UINT16 w_INT32 w_INT64 w_BYTE w_BOOLEAN w_SBYTE w_FLOAT w_DOUBLE w_UINT32 w_UINT64 w_INT16 w_DATE_TIME w_BYTE_STRING w_STATUS_CODE (Or.inl h1)).symm, e0, rfl⟩) (by decide) (by decide)
  · skip
    refine EKit.ifNo X0 hx (EKit.c_t (flt h1).1) (hb hby d1_1) (q := 4) rfl ?_
    refine EKit.iloadN X0 hx rfl (hb hby d1_4) (q := 5) rfl ?_
    obtain ⟨T1, X1, e1, st1⟩ := getS X0 hx hZ (host := "") hown (hw _ (List.mem_of_getElem? (i := 4) rfl)) Via.refl e0 S_BY (g := (mkF m 5 #[.val (.int p0)] [(.int p0)])) rfl (hb hby d1_5)
    refine EKit.step st1 ?_
    show EKit.Ends p l e ({ frames := 0, cells := 0, slots := 0, locals := 0 } : Room) s m #[(.int p0)] below meth c ({ frames := 0, cells := 0, slots := 0, locals := 0 } : Room).cells ({ frames := 0, cells := 0, slots := 0, locals := 0 } : Room).slots (RetQ (some (own_exp p0 w_NULL w_GUID w_STRING w_UINT16 w_INT32 w_INT64 w_BYTE w_BOOLEAN w_SBYTE w_FLOAT w_DOUBLE w_UINT32 w_UINT64 w_INT16 w_DATE_TIME w_BYTE_STRING w_STATUS_CODE)) h0) T1 (mkF m 8 #[.val (.int p0)] [(.ref w_BY), (.int p0)])
    refine EKit.alen X1 hx hZ e1 A_BY (hb hby d1_8) (q := 9) rfl ?_
    by_cases h9 : p0 < (64 : Int32)
    · skip
      refine EKit.icmpNo X1 hx ((tlt h9).2.1) (hb hby d1_9) (q := 12) rfl ?_
      obtain ⟨T2, X2, e2, st2⟩ := getS X1 hx hZ (host := "") hown (hw _ (List.mem_of_getElem? (i := 4) rfl)) Via.refl e1 S_BY (g := (mkF m 12 #[.val (.int p0)] [])) rfl (hb hby d1_12)
      refine EKit.step st2 ?_
      show EKit.Ends p l e ({ frames := 0, cells := 0, slots := 0, locals := 0 } : Room) s m #[(.int p0)] below meth c ({ frames := 0, cells := 0, slots := 0, locals := 0 } : Room).cells ({ frames := 0, cells := 0, slots := 0, locals := 0 } : Room).slots (RetQ (some (own_exp p0 w_NULL w_GUID w_STRING w_UINT16 w_INT32 w_INT64 w_BYTE w_BOOLEAN w_SBYTE w_FLOAT w_DOUBLE w_UINT32 w_UINT64 w_INT16 w_DATE_TIME w_BYTE_STRING w_STATUS_CODE)) h0) T2 (mkF m 15 #[.val (.int p0)] [(.ref w_BY)])
      refine EKit.iloadN X2 hx rfl (hb hby d1_15) (q := 16) rfl ?_
      refine EKit.aaload X2 hx hZ e2 rfl A_BY h1 h9 (v := (own_exp p0 w_NULL w_GUID w_STRING w_UINT16 w_INT32 w_INT64 w_BYTE w_BOOLEAN w_SBYTE w_FLOAT w_DOUBLE w_UINT32 w_UINT64 w_INT16 w_DATE_TIME w_BYTE_STRING w_STATUS_CODE)) rfl (hb hby d1_16) (q := 17) rfl ?_
      refine EKit.goto X2 hx (hb hby d1_17) (by decide) (q := 21) (by decide) ?_
      exact EKit.retA X2 hx hret rfl (own_isref _ w_NULL w_GUID w_STRING w_UINT16 w_INT32 w_INT64 w_BYTE w_BOOLEAN w_SBYTE w_FLOAT w_DOUBLE w_UINT32 w_UINT64 w_INT16 w_DATE_TIME w_BYTE_STRING w_STATUS_CODE) rfl (hb hby d1_21) (⟨rfl, e2, rfl⟩) (by decide) (by decide)
    · skip
      refine EKit.icmpYes X1 hx ((flt h9).2.1) (hb hby d1_9) (by decide) (q := 20) (by decide) ?_
      refine EKit.aconstNull X1 hx  (hb hby d1_20) (q := 21) rfl ?_
      exact EKit.retA X1 hx hret rfl rfl rfl (hb hby d1_21) (⟨congrArg some (own_out p0 w_NULL w_GUID w_STRING w_UINT16 w_INT32 w_INT64 w_BYTE w_BOOLEAN w_SBYTE w_FLOAT w_DOUBLE w_UINT32 w_UINT64 w_INT16 w_DATE_TIME w_BYTE_STRING w_STATUS_CODE (Or.inr h9)).symm, e1, rfl⟩) (by decide) (by decide)
theorem ef_rm0 (m : MethodId) (x0 : Int32) (x1 : Int32) : entryFrame m #[(.int x0), (.int x1)] maxLocals = mkF m 0 #[.val (.int x0), .val (.int x1), .unset] [] := by first | (simp [entryFrame, mkF, argsToLocals, Value.category, maxLocals]; done) | rfl
theorem pd__I_Lcom_example_pubframe_pubframe_message_BuiltInType_ : parseMethodDescriptor "(I)Lcom/example/pubframe/pubframe/message/BuiltInType;" = some ⟨[.int], some (.object "com/example/pubframe/pubframe/message/BuiltInType")⟩ := by decide +kernel
set_option maxRecDepth 65536 in
set_option maxHeartbeats 40000000 in
theorem rm0 (l : Launch) (Z : State) (a0 : Array Value) (hw : ∀ d ∈ tables_1, d.before a0 Z = true) (ws : List Jvm.Cond) (p0 : Int32) (p1 : Int32) (h0 : Heap)  (w_NULL : Addr) (w_GUID : Addr) (w_STRING : Addr) (w_UINT16 : Addr) (w_INT32 : Addr) (w_INT64 : Addr) (w_BYTE : Addr) (w_BOOLEAN : Addr) (w_SBYTE : Addr) (w_FLOAT : Addr) (w_DOUBLE : Addr) (w_UINT32 : Addr) (w_UINT64 : Addr) (w_INT16 : Addr) (w_DATE_TIME : Addr) (w_BYTE_STRING : Addr) (w_STATUS_CODE : Addr) (S_NULL : Sta Z h0 "com/example/pubframe/pubframe/message/BuiltInType" "NULL" "Lcom/example/pubframe/pubframe/message/BuiltInType;" (.ref w_NULL)) (S_GUID : Sta Z h0 "com/example/pubframe/pubframe/message/BuiltInType" "GUID" "Lcom/example/pubframe/pubframe/message/BuiltInType;" (.ref w_GUID)) (S_STRING : Sta Z h0 "com/example/pubframe/pubframe/message/BuiltInType" "STRING" "Lcom/example/pubframe/pubframe/message/BuiltInType;" (.ref w_STRING)) (S_UINT16 : Sta Z h0 "com/example/pubframe/pubframe/message/BuiltInType" "UINT16" "Lcom/example/pubframe/pubframe/message/BuiltInType;" (.ref w_UINT16)) (S_INT32 : Sta Z h0 "com/example/pubframe/pubframe/message/BuiltInType" "INT32" "Lcom/example/pubframe/pubframe/message/BuiltInType;" (.ref w_INT32)) (S_INT64 : Sta Z h0 "com/example/pubframe/pubframe/message/BuiltInType" "INT64" "Lcom/example/pubframe/pubframe/message/BuiltInType;" (.ref w_INT64)) (S_BYTE : Sta Z h0 "com/example/pubframe/pubframe/message/BuiltInType" "BYTE" "Lcom/example/pubframe/pubframe/message/BuiltInType;" (.ref w_BYTE)) (S_BOOLEAN : Sta Z h0 "com/example/pubframe/pubframe/message/BuiltInType" "BOOLEAN" "Lcom/example/pubframe/pubframe/message/BuiltInType;" (.ref w_BOOLEAN)) (S_SBYTE : Sta Z h0 "com/example/pubframe/pubframe/message/BuiltInType" "SBYTE" "Lcom/example/pubframe/pubframe/message/BuiltInType;" (.ref w_SBYTE)) (S_FLOAT : Sta Z h0 "com/example/pubframe/pubframe/message/BuiltInType" "FLOAT" "Lcom/example/pubframe/pubframe/message/BuiltInType;" (.ref w_FLOAT)) (S_DOUBLE : Sta Z h0 "com/example/pubframe/pubframe/message/BuiltInType" "DOUBLE" "Lcom/example/pubframe/pubframe/message/BuiltInType;" (.ref w_DOUBLE)) (S_UINT32 : Sta Z h0 "com/example/pubframe/pubframe/message/BuiltInType" "UINT32" "Lcom/example/pubframe/pubframe/message/BuiltInType;" (.ref w_UINT32)) (S_UINT64 : Sta Z h0 "com/example/pubframe/pubframe/message/BuiltInType" "UINT64" "Lcom/example/pubframe/pubframe/message/BuiltInType;" (.ref w_UINT64)) (S_INT16 : Sta Z h0 "com/example/pubframe/pubframe/message/BuiltInType" "INT16" "Lcom/example/pubframe/pubframe/message/BuiltInType;" (.ref w_INT16)) (S_DATE_TIME : Sta Z h0 "com/example/pubframe/pubframe/message/BuiltInType" "DATE_TIME" "Lcom/example/pubframe/pubframe/message/BuiltInType;" (.ref w_DATE_TIME)) (S_BYTE_STRING : Sta Z h0 "com/example/pubframe/pubframe/message/BuiltInType" "BYTE_STRING" "Lcom/example/pubframe/pubframe/message/BuiltInType;" (.ref w_BYTE_STRING)) (S_STATUS_CODE : Sta Z h0 "com/example/pubframe/pubframe/message/BuiltInType" "STATUS_CODE" "Lcom/example/pubframe/pubframe/message/BuiltInType;" (.ref w_STATUS_CODE)) (w_BY : Addr) (kk : ClassId) (S_BY : Sta Z h0 "com/example/pubframe/pubframe/message/BuiltInType" "BY_ID" "[Lcom/example/pubframe/pubframe/message/BuiltInType;" (.ref w_BY)) (A_BY : Ary Z h0 w_BY kk (.object "com/example/pubframe/pubframe/message/BuiltInType") (64 : Int32) (fun j => own_exp j w_NULL w_GUID w_STRING w_UINT16 w_INT32 w_INT64 w_BYTE w_BOOLEAN w_SBYTE w_FLOAT w_DOUBLE w_UINT32 w_UINT64 w_INT16 w_DATE_TIME w_BYTE_STRING w_STATUS_CODE)) :
    Pays l Z x code maxLocals ret ws room_1 #[(.int p0), (.int p1)] h0 (fun v h L => v = some (.int (1 : Int32)) ∧ Fr h0.size L) := by
  refine EKit.pays (plainFor_of_name pn_com_example_pubframe_pubframe_message_BuiltInTypeForIdPinLaw) (fun m => ef_rm0 m p0 p1) ?_
  intro p e s m below meth c s₁ hx hby hml hZ hown hnm hret X0 e0 hs0
  refine EKit.iloadN X0 hx rfl (hb hby at_0) (q := 1) rfl ?_
  refine EKit.bipush X0 hx (v := (127 : Int32)) rfl (hb hby at_1) (q := 3) rfl ?_
  refine EKit.iand X0 hx  (hb hby at_3) (q := 4) rfl ?_
  refine EKit.bipush X0 hx (v := (8 : Int32)) rfl (hb hby at_4) (q := 6) rfl ?_
  refine EKit.isub X0 hx  (hb hby at_6) (q := 7) rfl ?_
  refine EKit.istoreN X0 hx (l' := #[.val (.int p0), .val (.int p1), .val (.int ((p1 &&& (127 : Int32)) - (8 : Int32)))]) rfl (hb hby at_7) (q := 8) rfl ?_
  refine EKit.iloadN X0 hx rfl (hb hby at_8) (q := 9) rfl ?_
  refine EKit.callS X0 hx hZ hown e0 (y := (⟨"com/example/pubframe/pubframe/message/BuiltInType", "forId", "(I)Lcom/example/pubframe/pubframe/message/BuiltInType;"⟩ : MethodName)) (hw _ (List.mem_of_getElem? (i := 0) rfl)) (hw _ (List.mem_of_getElem? (i := 1) rfl)) (hw _ (List.mem_of_getElem? (i := 2) rfl)) (hw _ (List.mem_of_getElem? (i := 3) rfl)) (by decide) (argsL := [(.int p0)]) (rm1 l Z a0 hw [] p0 h0 w_NULL w_GUID w_STRING w_UINT16 w_INT32 w_INT64 w_BYTE w_BOOLEAN w_SBYTE w_FLOAT w_DOUBLE w_UINT32 w_UINT64 w_INT16 w_DATE_TIME w_BYTE_STRING w_STATUS_CODE w_BY kk S_BY A_BY) (rest := []) (by rw [hml]; rfl) pd__I_Lcom_example_pubframe_pubframe_message_BuiltInType_ rfl (W := 0) (Nat.le_of_eq rfl) (by decide) (by decide) (by decide) (by decide) rfl (hb hby at_9) (q := 12) rfl ?_
  intro T1 v1 L1 X1 hQ1
  obtain ⟨X1, e1, ev1⟩ := EKit.pureK X1 hQ1
  subst ev1
  show EKit.Ends p l e room_1 s m #[(.int p0), (.int p1)] below meth c room_1.cells room_1.slots (fun v h L => v = some (.int (1 : Int32)) ∧ Fr h0.size L) T1 (mkF m 12 #[.val (.int p0), .val (.int p1), .val (.int ((p1 &&& (127 : Int32)) - (8 : Int32)))] [(own_exp p0 w_NULL w_GUID w_STRING w_UINT16 w_INT32 w_INT64 w_BYTE w_BOOLEAN w_SBYTE w_FLOAT w_DOUBLE w_UINT32 w_UINT64 w_INT16 w_DATE_TIME w_BYTE_STRING w_STATUS_CODE)])
  refine EKit.iloadN X1 hx rfl (hb hby at_12) (q := 13) rfl ?_
  refine EKit.callS X1 hx hZ hown e1 (y := (⟨"com/example/pubframe/pubframe/message/BuiltInTypeForIdPinLaw", "expected", "(I)Lcom/example/pubframe/pubframe/message/BuiltInType;"⟩ : MethodName)) (hw _ (List.mem_of_getElem? (i := 7) rfl)) (hw _ (List.mem_of_getElem? (i := 8) rfl)) (hw _ (List.mem_of_getElem? (i := 9) rfl)) (hw _ (List.mem_of_getElem? (i := 10) rfl)) (by decide) (argsL := [(.int p0)]) (rm2 l Z a0 hw [] p0 h0 w_NULL w_GUID w_STRING w_UINT16 w_INT32 w_INT64 w_BYTE w_BOOLEAN w_SBYTE w_FLOAT w_DOUBLE w_UINT32 w_UINT64 w_INT16 w_DATE_TIME w_BYTE_STRING w_STATUS_CODE S_NULL S_GUID S_STRING S_UINT16 S_INT32 S_INT64 S_BYTE S_BOOLEAN S_SBYTE S_FLOAT S_DOUBLE S_UINT32 S_UINT64 S_INT16 S_DATE_TIME S_BYTE_STRING S_STATUS_CODE) (rest := [(own_exp p0 w_NULL w_GUID w_STRING w_UINT16 w_INT32 w_INT64 w_BYTE w_BOOLEAN w_SBYTE w_FLOAT w_DOUBLE w_UINT32 w_UINT64 w_INT16 w_DATE_TIME w_BYTE_STRING w_STATUS_CODE)]) (by rw [hml]; rfl) pd__I_Lcom_example_pubframe_pubframe_message_BuiltInType_ rfl (W := 1) (Nat.le_of_eq (by show (((own_exp p0 w_NULL w_GUID w_STRING w_UINT16 w_INT32 w_INT64 w_BYTE w_BOOLEAN w_SBYTE w_FLOAT w_DOUBLE w_UINT32 w_UINT64 w_INT16 w_DATE_TIME w_BYTE_STRING w_STATUS_CODE) : Value).category + 0) = 1; rw [EKit.cat_of (own_isref _ w_NULL w_GUID w_STRING w_UINT16 w_INT32 w_INT64 w_BYTE w_BOOLEAN w_SBYTE w_FLOAT w_DOUBLE w_UINT32 w_UINT64 w_INT16 w_DATE_TIME w_BYTE_STRING w_STATUS_CODE)]; try rfl)) (by decide) (by decide) (by decide) (by decide) rfl (hb hby at_13) (q := 16) rfl ?_
  intro T2 v2 L2 X2 hQ2
  obtain ⟨X2, e2, ev2⟩ := EKit.pureK X2 hQ2
  subst ev2
  show EKit.Ends p l e room_1 s m #[(.int p0), (.int p1)] below meth c room_1.cells room_1.slots (fun v h L => v = some (.int (1 : Int32)) ∧ Fr h0.size L) T2 (mkF m 16 #[.val (.int p0), .val (.int p1), .val (.int ((p1 &&& (127 : Int32)) - (8 : Int32)))] [(own_exp p0 w_NULL w_GUID w_STRING w_UINT16 w_INT32 w_INT64 w_BYTE w_BOOLEAN w_SBYTE w_FLOAT w_DOUBLE w_UINT32 w_UINT64 w_INT16 w_DATE_TIME w_BYTE_STRING w_STATUS_CODE), (own_exp p0 w_NULL w_GUID w_STRING w_UINT16 w_INT32 w_INT64 w_BYTE w_BOOLEAN w_SBYTE w_FLOAT w_DOUBLE w_UINT32 w_UINT64 w_INT16 w_DATE_TIME w_BYTE_STRING w_STATUS_CODE)])
  have h16 : ((own_exp p0 w_NULL w_GUID w_STRING w_UINT16 w_INT32 w_INT64 w_BYTE w_BOOLEAN w_SBYTE w_FLOAT w_DOUBLE w_UINT32 w_UINT64 w_INT16 w_DATE_TIME w_BYTE_STRING w_STATUS_CODE) : Value) = (own_exp p0 w_NULL w_GUID w_STRING w_UINT16 w_INT32 w_INT64 w_BYTE w_BOOLEAN w_SBYTE w_FLOAT w_DOUBLE w_UINT32 w_UINT64 w_INT16 w_DATE_TIME w_BYTE_STRING w_STATUS_CODE) := rfl
  refine EKit.acmp X2 hx (own_isref _ w_NULL w_GUID w_STRING w_UINT16 w_INT32 w_INT64 w_BYTE w_BOOLEAN w_SBYTE w_FLOAT w_DOUBLE w_UINT32 w_UINT64 w_INT16 w_DATE_TIME w_BYTE_STRING w_STATUS_CODE) (own_isref _ w_NULL w_GUID w_STRING w_UINT16 w_INT32 w_INT64 w_BYTE w_BOOLEAN w_SBYTE w_FLOAT w_DOUBLE w_UINT32 w_UINT64 w_INT16 w_DATE_TIME w_BYTE_STRING w_STATUS_CODE) (same := true) (decide_eq_true h16) (hb hby at_16) (by decide) (q := 19) (by decide) ?_
  refine EKit.iloadN X2 hx rfl (hb hby at_19) (q := 20) rfl ?_
  refine EKit.callS X2 hx hZ hown e2 (y := (⟨"com/example/pubframe/pubframe/message/BuiltInType", "forId", "(I)Lcom/example/pubframe/pubframe/message/BuiltInType;"⟩ : MethodName)) (hw _ (List.mem_of_getElem? (i := 0) rfl)) (hw _ (List.mem_of_getElem? (i := 1) rfl)) (hw _ (List.mem_of_getElem? (i := 2) rfl)) (hw _ (List.mem_of_getElem? (i := 3) rfl)) (by decide) (argsL := [(.int ((p1 &&& (127 : Int32)) - (8 : Int32)))]) (rm1 l Z a0 hw [] ((p1 &&& (127 : Int32)) - (8 : Int32)) h0 w_NULL w_GUID w_STRING w_UINT16 w_INT32 w_INT64 w_BYTE w_BOOLEAN w_SBYTE w_FLOAT w_DOUBLE w_UINT32 w_UINT64 w_INT16 w_DATE_TIME w_BYTE_STRING w_STATUS_CODE w_BY kk S_BY A_BY) (rest := []) (by rw [hml]; rfl) pd__I_Lcom_example_pubframe_pubframe_message_BuiltInType_ rfl (W := 0) (Nat.le_of_eq rfl) (by decide) (by decide) (by decide) (by decide) rfl (hb hby at_20) (q := 23) rfl ?_
  intro T3 v3 L3 X3 hQ3
  obtain ⟨X3, e3, ev3⟩ := EKit.pureK X3 hQ3
  subst ev3
  show EKit.Ends p l e room_1 s m #[(.int p0), (.int p1)] below meth c room_1.cells room_1.slots (fun v h L => v = some (.int (1 : Int32)) ∧ Fr h0.size L) T3 (mkF m 23 #[.val (.int p0), .val (.int p1), .val (.int ((p1 &&& (127 : Int32)) - (8 : Int32)))] [(own_exp ((p1 &&& (127 : Int32)) - (8 : Int32)) w_NULL w_GUID w_STRING w_UINT16 w_INT32 w_INT64 w_BYTE w_BOOLEAN w_SBYTE w_FLOAT w_DOUBLE w_UINT32 w_UINT64 w_INT16 w_DATE_TIME w_BYTE_STRING w_STATUS_CODE)])
  refine EKit.iloadN X3 hx rfl (hb hby at_23) (q := 24) rfl ?_
  refine EKit.callS X3 hx hZ hown e3 (y := (⟨"com/example/pubframe/pubframe/message/BuiltInTypeForIdPinLaw", "expected", "(I)Lcom/example/pubframe/pubframe/message/BuiltInType;"⟩ : MethodName)) (hw _ (List.mem_of_getElem? (i := 7) rfl)) (hw _ (List.mem_of_getElem? (i := 8) rfl)) (hw _ (List.mem_of_getElem? (i := 9) rfl)) (hw _ (List.mem_of_getElem? (i := 10) rfl)) (by decide) (argsL := [(.int ((p1 &&& (127 : Int32)) - (8 : Int32)))]) (rm2 l Z a0 hw [] ((p1 &&& (127 : Int32)) - (8 : Int32)) h0 w_NULL w_GUID w_STRING w_UINT16 w_INT32 w_INT64 w_BYTE w_BOOLEAN w_SBYTE w_FLOAT w_DOUBLE w_UINT32 w_UINT64 w_INT16 w_DATE_TIME w_BYTE_STRING w_STATUS_CODE S_NULL S_GUID S_STRING S_UINT16 S_INT32 S_INT64 S_BYTE S_BOOLEAN S_SBYTE S_FLOAT S_DOUBLE S_UINT32 S_UINT64 S_INT16 S_DATE_TIME S_BYTE_STRING S_STATUS_CODE) (rest := [(own_exp ((p1 &&& (127 : Int32)) - (8 : Int32)) w_NULL w_GUID w_STRING w_UINT16 w_INT32 w_INT64 w_BYTE w_BOOLEAN w_SBYTE w_FLOAT w_DOUBLE w_UINT32 w_UINT64 w_INT16 w_DATE_TIME w_BYTE_STRING w_STATUS_CODE)]) (by rw [hml]; rfl) pd__I_Lcom_example_pubframe_pubframe_message_BuiltInType_ rfl (W := 1) (Nat.le_of_eq (by show (((own_exp ((p1 &&& (127 : Int32)) - (8 : Int32)) w_NULL w_GUID w_STRING w_UINT16 w_INT32 w_INT64 w_BYTE w_BOOLEAN w_SBYTE w_FLOAT w_DOUBLE w_UINT32 w_UINT64 w_INT16 w_DATE_TIME w_BYTE_STRING w_STATUS_CODE) : Value).category + 0) = 1; rw [EKit.cat_of (own_isref _ w_NULL w_GUID w_STRING w_UINT16 w_INT32 w_INT64 w_BYTE w_BOOLEAN w_SBYTE w_FLOAT w_DOUBLE w_UINT32 w_UINT64 w_INT16 w_DATE_TIME w_BYTE_STRING w_STATUS_CODE)]; try rfl)) (by decide) (by decide) (by decide) (by decide) rfl (hb hby at_24) (q := 27) rfl ?_
  intro T4 v4 L4 X4 hQ4
  obtain ⟨X4, e4, ev4⟩ := EKit.pureK X4 hQ4
  subst ev4
  show EKit.Ends p l e room_1 s m #[(.int p0), (.int p1)] below meth c room_1.cells room_1.slots (fun v h L => v = some (.int (1 : Int32)) ∧ Fr h0.size L) T4 (mkF m 27 #[.val (.int p0), .val (.int p1), .val (.int ((p1 &&& (127 : Int32)) - (8 : Int32)))] [(own_exp ((p1 &&& (127 : Int32)) - (8 : Int32)) w_NULL w_GUID w_STRING w_UINT16 w_INT32 w_INT64 w_BYTE w_BOOLEAN w_SBYTE w_FLOAT w_DOUBLE w_UINT32 w_UINT64 w_INT16 w_DATE_TIME w_BYTE_STRING w_STATUS_CODE), (own_exp ((p1 &&& (127 : Int32)) - (8 : Int32)) w_NULL w_GUID w_STRING w_UINT16 w_INT32 w_INT64 w_BYTE w_BOOLEAN w_SBYTE w_FLOAT w_DOUBLE w_UINT32 w_UINT64 w_INT16 w_DATE_TIME w_BYTE_STRING w_STATUS_CODE)])
  have h27 : ((own_exp ((p1 &&& (127 : Int32)) - (8 : Int32)) w_NULL w_GUID w_STRING w_UINT16 w_INT32 w_INT64 w_BYTE w_BOOLEAN w_SBYTE w_FLOAT w_DOUBLE w_UINT32 w_UINT64 w_INT16 w_DATE_TIME w_BYTE_STRING w_STATUS_CODE) : Value) = (own_exp ((p1 &&& (127 : Int32)) - (8 : Int32)) w_NULL w_GUID w_STRING w_UINT16 w_INT32 w_INT64 w_BYTE w_BOOLEAN w_SBYTE w_FLOAT w_DOUBLE w_UINT32 w_UINT64 w_INT16 w_DATE_TIME w_BYTE_STRING w_STATUS_CODE) := rfl
  refine EKit.acmp X4 hx (own_isref _ w_NULL w_GUID w_STRING w_UINT16 w_INT32 w_INT64 w_BYTE w_BOOLEAN w_SBYTE w_FLOAT w_DOUBLE w_UINT32 w_UINT64 w_INT16 w_DATE_TIME w_BYTE_STRING w_STATUS_CODE) (own_isref _ w_NULL w_GUID w_STRING w_UINT16 w_INT32 w_INT64 w_BYTE w_BOOLEAN w_SBYTE w_FLOAT w_DOUBLE w_UINT32 w_UINT64 w_INT16 w_DATE_TIME w_BYTE_STRING w_STATUS_CODE) (same := true) (decide_eq_true h27) (hb hby at_27) (by decide) (q := 30) (by decide) ?_
  refine EKit.iconst X4 hx (v := (1 : Int32)) rfl (hb hby at_30) (q := 31) rfl ?_
  refine EKit.goto X4 hx (hb hby at_31) (by decide) (q := 35) (by decide) ?_
  exact EKit.retZ X4 hx hret (by simp) (hb hby at_35) (⟨rfl, Fr.nil _⟩) (by decide) (by decide)
set_option maxRecDepth 65536 in
set_option maxHeartbeats 40000000 in
theorem comes_1 {Post : Tables → Env → Array Value → State → Outcome → State → Prop} (hpost : ∀ tb e args s v u, (limb_1_1.after args s (.returned v) u = true ∧ limb_1_2.after args s (.returned v) u = true ∧ True) → FrameEnd s (.returned v) u (Jvm.fieldLocs frame_1_writes args s ++ Jvm.arrayLocs frame_1_arrays args s ++ Jvm.staticLocs frame_1_statics s) 0 0 → Post tb e args s (.returned v) u) :
    ArmFor flags0 classFile x code maxLocals ret World_1 tables_1 room_1 Calls_1 rest_1 Pre_1 Post := by
  intro l hfl _ _ p e ha hc hk s m args below hf hA hF happ hP
  obtain ⟨hcalls, hrest, hpre⟩ := hP
  obtain ⟨-, -, -, hnamed, -, -, -, hat⟩ := (Spec.applies_iff hf).mp happ
  obtain ⟨hg, hn⟩ := and_e (Cond.before_iff.mp (show (Jvm.Cond.and given_1 narrow_1).before args s = true from hpre))
  obtain ⟨g4, g5⟩ := and_e hg
  obtain ⟨g6, g7⟩ := and_e g5
  obtain ⟨w0, w1, rfl⟩ : ∃ w0 w1 : Value, args = #[w0, w1] := by
    have hs : args.size = 2 := by simpa [Cond.value, given_1] using g4
    obtain ⟨L⟩ := args
    match L, hs with
    | [w0, w1], _ => exact ⟨w0, w1, rfl⟩
  have hw := fun d (hd : d ∈ tables_1) => atoms_spec (ws := Jvm.Cond.code x code maxLocals ret :: tables_1) hat d (List.mem_cons_of_mem _ hd)
  obtain ⟨i0, ei0⟩ := is_v g6
  obtain rfl : w0 = (.int i0) := Option.some.inj ei0
  obtain ⟨i1, ei1⟩ := is_v g7
  obtain rfl : w1 = (.int i1) := Option.some.inj ei1
  obtain ⟨n1, n2⟩ := and_e hn
  obtain ⟨n3, n4⟩ := and_e n2
  obtain ⟨n5, n6⟩ := and_e n4
  obtain ⟨n7, n8⟩ := and_e n6
  obtain ⟨n9, n10⟩ := and_e n8
  obtain ⟨n11, n12⟩ := and_e n10
  obtain ⟨n13, n14⟩ := and_e n12
  obtain ⟨n15, n16⟩ := and_e n14
  obtain ⟨n17, n18⟩ := and_e n16
  obtain ⟨n19, n20⟩ := and_e n18
  obtain ⟨n21, n22⟩ := and_e n20
  obtain ⟨n23, n24⟩ := and_e n22
  obtain ⟨n25, n26⟩ := and_e n24
  obtain ⟨n27, n28⟩ := and_e n26
  obtain ⟨n29, n30⟩ := and_e n28
  obtain ⟨n31, n32⟩ := and_e n30
  obtain ⟨n33, n34⟩ := and_e n32
  obtain ⟨n35, n36⟩ := and_e n34
  obtain ⟨n37, n38⟩ := and_e n36
  obtain ⟨n39, n40⟩ := and_e n38
  obtain ⟨n41, n42⟩ := and_e n40
  obtain ⟨n43, n44⟩ := and_e n42
  obtain ⟨n45, n46⟩ := and_e n44
  obtain ⟨n47, n48⟩ := and_e n46
  obtain ⟨n49, n50⟩ := and_e n48
  obtain ⟨n51, n52⟩ := and_e n50
  obtain ⟨n53, n54⟩ := and_e n52
  obtain ⟨n55, n56⟩ := and_e n54
  obtain ⟨n57, n58⟩ := and_e n56
  obtain ⟨n59, n60⟩ := and_e n58
  obtain ⟨n61, n62⟩ := and_e n60
  obtain ⟨n63, n64⟩ := and_e n62
  obtain ⟨n65, n66⟩ := and_e n64
  obtain ⟨n67, n68⟩ := and_e n66
  obtain ⟨n69, n70⟩ := and_e n68
  obtain ⟨n71, n72⟩ := and_e n70
  obtain ⟨n73, n74⟩ := and_e n72
  obtain ⟨n75, n76⟩ := and_e n74
  obtain ⟨n77, n78⟩ := and_e n76
  obtain ⟨n79, n80⟩ := and_e n78
  obtain ⟨n81, n82⟩ := and_e n80
  obtain ⟨n83, n84⟩ := and_e n82
  obtain ⟨n85, n86⟩ := and_e n84
  obtain ⟨n87, n88⟩ := and_e n86
  obtain ⟨n89, n90⟩ := and_e n88
  obtain ⟨n91, n92⟩ := and_e n90
  obtain ⟨n93, n94⟩ := and_e n92
  obtain ⟨n95, n96⟩ := and_e n94
  obtain ⟨n97, n98⟩ := and_e n96
  obtain ⟨n99, n100⟩ := and_e n98
  obtain ⟨n101, n102⟩ := and_e n100
  obtain ⟨n103, n104⟩ := and_e n102
  obtain ⟨n105, n106⟩ := and_e n104
  obtain ⟨n107, n108⟩ := and_e n106
  obtain ⟨n109, n110⟩ := and_e n108
  obtain ⟨n111, n112⟩ := and_e n110
  obtain ⟨n113, n114⟩ := and_e n112
  obtain ⟨n115, n116⟩ := and_e n114
  obtain ⟨n117, n118⟩ := and_e n116
  obtain ⟨n119, n120⟩ := and_e n118
  obtain ⟨n121, n122⟩ := and_e n120
  obtain ⟨n123, n124⟩ := and_e n122
  obtain ⟨n125, n126⟩ := and_e n124
  obtain ⟨n127, n128⟩ := and_e n126
  obtain ⟨n129, n130⟩ := and_e n128
  obtain ⟨n131, n132⟩ := and_e n130
  obtain ⟨n133, n134⟩ := and_e n132
  obtain ⟨n135, n136⟩ := and_e n134
  obtain ⟨n137, n138⟩ := and_e n136
  obtain ⟨n139, n140⟩ := and_e n138
  obtain ⟨n141, n142⟩ := and_e n140
  obtain ⟨n143, n144⟩ := and_e n142
  obtain ⟨n145, n146⟩ := and_e n144
  obtain ⟨n147, n148⟩ := and_e n146
  obtain ⟨n149, n150⟩ := and_e n148
  obtain ⟨n151, n152⟩ := and_e n150
  obtain ⟨n153, n154⟩ := and_e n152
  obtain ⟨n155, n156⟩ := and_e n154
  obtain ⟨n157, n158⟩ := and_e n156
  obtain ⟨n159, n160⟩ := and_e n158
  obtain ⟨n161, n162⟩ := and_e n160
  obtain ⟨n163, n164⟩ := and_e n162
  obtain ⟨w_NULL, ev_NULL⟩ := exa_v n5
  have E_NULL : Exa s s.heap w_NULL "com/example/pubframe/pubframe/message/BuiltInType" := Exa.start ev_NULL n5
  have S_NULL : Sta s s.heap "com/example/pubframe/pubframe/message/BuiltInType" "NULL" "Lcom/example/pubframe/pubframe/message/BuiltInType;" (.ref w_NULL) := Sta.start ev_NULL (Or.inr ⟨(hw _ (List.mem_of_getElem? (i := 2) rfl)), (hw _ (List.mem_of_getElem? (i := 6) rfl))⟩)
  obtain ⟨w_GUID, ev_GUID⟩ := exa_v n9
  have E_GUID : Exa s s.heap w_GUID "com/example/pubframe/pubframe/message/BuiltInType" := Exa.start ev_GUID n9
  have S_GUID : Sta s s.heap "com/example/pubframe/pubframe/message/BuiltInType" "GUID" "Lcom/example/pubframe/pubframe/message/BuiltInType;" (.ref w_GUID) := Sta.start ev_GUID (Or.inr ⟨(hw _ (List.mem_of_getElem? (i := 2) rfl)), (hw _ (List.mem_of_getElem? (i := 12) rfl))⟩)
  obtain ⟨w_STRING, ev_STRING⟩ := exa_v n13
  have E_STRING : Exa s s.heap w_STRING "com/example/pubframe/pubframe/message/BuiltInType" := Exa.start ev_STRING n13
  have S_STRING : Sta s s.heap "com/example/pubframe/pubframe/message/BuiltInType" "STRING" "Lcom/example/pubframe/pubframe/message/BuiltInType;" (.ref w_STRING) := Sta.start ev_STRING (Or.inr ⟨(hw _ (List.mem_of_getElem? (i := 2) rfl)), (hw _ (List.mem_of_getElem? (i := 14) rfl))⟩)
  obtain ⟨w_UINT16, ev_UINT16⟩ := exa_v n17
  have E_UINT16 : Exa s s.heap w_UINT16 "com/example/pubframe/pubframe/message/BuiltInType" := Exa.start ev_UINT16 n17
  have S_UINT16 : Sta s s.heap "com/example/pubframe/pubframe/message/BuiltInType" "UINT16" "Lcom/example/pubframe/pubframe/message/BuiltInType;" (.ref w_UINT16) := Sta.start ev_UINT16 (Or.inr ⟨(hw _ (List.mem_of_getElem? (i := 2) rfl)), (hw _ (List.mem_of_getElem? (i := 16) rfl))⟩)
  obtain ⟨w_INT32, ev_INT32⟩ := exa_v n21
  have E_INT32 : Exa s s.heap w_INT32 "com/example/pubframe/pubframe/message/BuiltInType" := Exa.start ev_INT32 n21
  have S_INT32 : Sta s s.heap "com/example/pubframe/pubframe/message/BuiltInType" "INT32" "Lcom/example/pubframe/pubframe/message/BuiltInType;" (.ref w_INT32) := Sta.start ev_INT32 (Or.inr ⟨(hw _ (List.mem_of_getElem? (i := 2) rfl)), (hw _ (List.mem_of_getElem? (i := 18) rfl))⟩)
  obtain ⟨w_INT64, ev_INT64⟩ := exa_v n27
  have E_INT64 : Exa s s.heap w_INT64 "com/example/pubframe/pubframe/message/BuiltInType" := Exa.start ev_INT64 n27
  have S_INT64 : Sta s s.heap "com/example/pubframe/pubframe/message/BuiltInType" "INT64" "Lcom/example/pubframe/pubframe/message/BuiltInType;" (.ref w_INT64) := Sta.start ev_INT64 (Or.inr ⟨(hw _ (List.mem_of_getElem? (i := 2) rfl)), (hw _ (List.mem_of_getElem? (i := 20) rfl))⟩)
  obtain ⟨w_BYTE, ev_BYTE⟩ := exa_v n33
  have E_BYTE : Exa s s.heap w_BYTE "com/example/pubframe/pubframe/message/BuiltInType" := Exa.start ev_BYTE n33
  have S_BYTE : Sta s s.heap "com/example/pubframe/pubframe/message/BuiltInType" "BYTE" "Lcom/example/pubframe/pubframe/message/BuiltInType;" (.ref w_BYTE) := Sta.start ev_BYTE (Or.inr ⟨(hw _ (List.mem_of_getElem? (i := 2) rfl)), (hw _ (List.mem_of_getElem? (i := 22) rfl))⟩)
  obtain ⟨w_BOOLEAN, ev_BOOLEAN⟩ := exa_v n39
  have E_BOOLEAN : Exa s s.heap w_BOOLEAN "com/example/pubframe/pubframe/message/BuiltInType" := Exa.start ev_BOOLEAN n39
  have S_BOOLEAN : Sta s s.heap "com/example/pubframe/pubframe/message/BuiltInType" "BOOLEAN" "Lcom/example/pubframe/pubframe/message/BuiltInType;" (.ref w_BOOLEAN) := Sta.start ev_BOOLEAN (Or.inr ⟨(hw _ (List.mem_of_getElem? (i := 2) rfl)), (hw _ (List.mem_of_getElem? (i := 24) rfl))⟩)
  obtain ⟨w_SBYTE, ev_SBYTE⟩ := exa_v n47
  have E_SBYTE : Exa s s.heap w_SBYTE "com/example/pubframe/pubframe/message/BuiltInType" := Exa.start ev_SBYTE n47
  have S_SBYTE : Sta s s.heap "com/example/pubframe/pubframe/message/BuiltInType" "SBYTE" "Lcom/example/pubframe/pubframe/message/BuiltInType;" (.ref w_SBYTE) := Sta.start ev_SBYTE (Or.inr ⟨(hw _ (List.mem_of_getElem? (i := 2) rfl)), (hw _ (List.mem_of_getElem? (i := 26) rfl))⟩)
  obtain ⟨w_FLOAT, ev_FLOAT⟩ := exa_v n53
  have E_FLOAT : Exa s s.heap w_FLOAT "com/example/pubframe/pubframe/message/BuiltInType" := Exa.start ev_FLOAT n53
  have S_FLOAT : Sta s s.heap "com/example/pubframe/pubframe/message/BuiltInType" "FLOAT" "Lcom/example/pubframe/pubframe/message/BuiltInType;" (.ref w_FLOAT) := Sta.start ev_FLOAT (Or.inr ⟨(hw _ (List.mem_of_getElem? (i := 2) rfl)), (hw _ (List.mem_of_getElem? (i := 28) rfl))⟩)
  obtain ⟨w_DOUBLE, ev_DOUBLE⟩ := exa_v n57
  have E_DOUBLE : Exa s s.heap w_DOUBLE "com/example/pubframe/pubframe/message/BuiltInType" := Exa.start ev_DOUBLE n57
  have S_DOUBLE : Sta s s.heap "com/example/pubframe/pubframe/message/BuiltInType" "DOUBLE" "Lcom/example/pubframe/pubframe/message/BuiltInType;" (.ref w_DOUBLE) := Sta.start ev_DOUBLE (Or.inr ⟨(hw _ (List.mem_of_getElem? (i := 2) rfl)), (hw _ (List.mem_of_getElem? (i := 30) rfl))⟩)
  obtain ⟨w_UINT32, ev_UINT32⟩ := exa_v n63
  have E_UINT32 : Exa s s.heap w_UINT32 "com/example/pubframe/pubframe/message/BuiltInType" := Exa.start ev_UINT32 n63
  have S_UINT32 : Sta s s.heap "com/example/pubframe/pubframe/message/BuiltInType" "UINT32" "Lcom/example/pubframe/pubframe/message/BuiltInType;" (.ref w_UINT32) := Sta.start ev_UINT32 (Or.inr ⟨(hw _ (List.mem_of_getElem? (i := 2) rfl)), (hw _ (List.mem_of_getElem? (i := 32) rfl))⟩)
  obtain ⟨w_UINT64, ev_UINT64⟩ := exa_v n73
  have E_UINT64 : Exa s s.heap w_UINT64 "com/example/pubframe/pubframe/message/BuiltInType" := Exa.start ev_UINT64 n73
  have S_UINT64 : Sta s s.heap "com/example/pubframe/pubframe/message/BuiltInType" "UINT64" "Lcom/example/pubframe/pubframe/message/BuiltInType;" (.ref w_UINT64) := Sta.start ev_UINT64 (Or.inr ⟨(hw _ (List.mem_of_getElem? (i := 2) rfl)), (hw _ (List.mem_of_getElem? (i := 34) rfl))⟩)
  obtain ⟨w_INT16, ev_INT16⟩ := exa_v n85
  have E_INT16 : Exa s s.heap w_INT16 "com/example/pubframe/pubframe/message/BuiltInType" := Exa.start ev_INT16 n85
  have S_INT16 : Sta s s.heap "com/example/pubframe/pubframe/message/BuiltInType" "INT16" "Lcom/example/pubframe/pubframe/message/BuiltInType;" (.ref w_INT16) := Sta.start ev_INT16 (Or.inr ⟨(hw _ (List.mem_of_getElem? (i := 2) rfl)), (hw _ (List.mem_of_getElem? (i := 36) rfl))⟩)
  obtain ⟨w_DATE_TIME, ev_DATE_TIME⟩ := exa_v n95
  have E_DATE_TIME : Exa s s.heap w_DATE_TIME "com/example/pubframe/pubframe/message/BuiltInType" := Exa.start ev_DATE_TIME n95
  have S_DATE_TIME : Sta s s.heap "com/example/pubframe/pubframe/message/BuiltInType" "DATE_TIME" "Lcom/example/pubframe/pubframe/message/BuiltInType;" (.ref w_DATE_TIME) := Sta.start ev_DATE_TIME (Or.inr ⟨(hw _ (List.mem_of_getElem? (i := 2) rfl)), (hw _ (List.mem_of_getElem? (i := 38) rfl))⟩)
  obtain ⟨w_BYTE_STRING, ev_BYTE_STRING⟩ := exa_v n105
  have E_BYTE_STRING : Exa s s.heap w_BYTE_STRING "com/example/pubframe/pubframe/message/BuiltInType" := Exa.start ev_BYTE_STRING n105
  have S_BYTE_STRING : Sta s s.heap "com/example/pubframe/pubframe/message/BuiltInType" "BYTE_STRING" "Lcom/example/pubframe/pubframe/message/BuiltInType;" (.ref w_BYTE_STRING) := Sta.start ev_BYTE_STRING (Or.inr ⟨(hw _ (List.mem_of_getElem? (i := 2) rfl)), (hw _ (List.mem_of_getElem? (i := 40) rfl))⟩)
  obtain ⟨w_STATUS_CODE, ev_STATUS_CODE⟩ := exa_v n111
  have E_STATUS_CODE : Exa s s.heap w_STATUS_CODE "com/example/pubframe/pubframe/message/BuiltInType" := Exa.start ev_STATUS_CODE n111
  have S_STATUS_CODE : Sta s s.heap "com/example/pubframe/pubframe/message/BuiltInType" "STATUS_CODE" "Lcom/example/pubframe/pubframe/message/BuiltInType;" (.ref w_STATUS_CODE) := Sta.start ev_STATUS_CODE (Or.inr ⟨(hw _ (List.mem_of_getElem? (i := 2) rfl)), (hw _ (List.mem_of_getElem? (i := 42) rfl))⟩)
  obtain ⟨w_BY, ev_BY⟩ := arr_v n1
  obtain ⟨cl, A0⟩ := Arr.start ev_BY n1
  have S_BY : Sta s s.heap "com/example/pubframe/pubframe/message/BuiltInType" "BY_ID" "[Lcom/example/pubframe/pubframe/message/BuiltInType;" (.ref w_BY) := Sta.start ev_BY (Or.inr ⟨(hw _ (List.mem_of_getElem? (i := 2) rfl)), (hw _ (List.mem_of_getElem? (i := 5) rfl))⟩)
  obtain ⟨r2, r3⟩ := EKit.evalLen (EKit.evalEq n3 (Term.int_eval _)) ev_BY A0
  have q0 : cl.slots[0]? = some (own_exp 0 w_NULL w_GUID w_STRING w_UINT16 w_INT32 w_INT64 w_BYTE w_BOOLEAN w_SBYTE w_FLOAT w_DOUBLE w_UINT32 w_UINT64 w_INT16 w_DATE_TIME w_BYTE_STRING w_STATUS_CODE) := (elem_in (EKit.evalEq n7 ev_NULL) ev_BY (Term.int_eval _) A0.1).2.trans (congrArg some (by simp [own_exp]))
  have q1 : cl.slots[1]? = some (own_exp 1 w_NULL w_GUID w_STRING w_UINT16 w_INT32 w_INT64 w_BYTE w_BOOLEAN w_SBYTE w_FLOAT w_DOUBLE w_UINT32 w_UINT64 w_INT16 w_DATE_TIME w_BYTE_STRING w_STATUS_CODE) := (elem_in (EKit.evalEq n41 ev_BOOLEAN) ev_BY (Term.int_eval _) A0.1).2.trans (congrArg some (by simp [own_exp]))
  have q2 : cl.slots[2]? = some (own_exp 2 w_NULL w_GUID w_STRING w_UINT16 w_INT32 w_INT64 w_BYTE w_BOOLEAN w_SBYTE w_FLOAT w_DOUBLE w_UINT32 w_UINT64 w_INT16 w_DATE_TIME w_BYTE_STRING w_STATUS_CODE) := (elem_in (EKit.evalEq n49 ev_SBYTE) ev_BY (Term.int_eval _) A0.1).2.trans (congrArg some (by simp [own_exp]))
  have q3 : cl.slots[3]? = some (own_exp 3 w_NULL w_GUID w_STRING w_UINT16 w_INT32 w_INT64 w_BYTE w_BOOLEAN w_SBYTE w_FLOAT w_DOUBLE w_UINT32 w_UINT64 w_INT16 w_DATE_TIME w_BYTE_STRING w_STATUS_CODE) := (elem_in (EKit.evalEq n35 ev_BYTE) ev_BY (Term.int_eval _) A0.1).2.trans (congrArg some (by simp [own_exp]))
  have q4 : cl.slots[4]? = some (own_exp 4 w_NULL w_GUID w_STRING w_UINT16 w_INT32 w_INT64 w_BYTE w_BOOLEAN w_SBYTE w_FLOAT w_DOUBLE w_UINT32 w_UINT64 w_INT16 w_DATE_TIME w_BYTE_STRING w_STATUS_CODE) := (elem_in (EKit.evalEq n87 ev_INT16) ev_BY (Term.int_eval _) A0.1).2.trans (congrArg some (by simp [own_exp]))
  have q5 : cl.slots[5]? = some (own_exp 5 w_NULL w_GUID w_STRING w_UINT16 w_INT32 w_INT64 w_BYTE w_BOOLEAN w_SBYTE w_FLOAT w_DOUBLE w_UINT32 w_UINT64 w_INT16 w_DATE_TIME w_BYTE_STRING w_STATUS_CODE) := (elem_in (EKit.evalEq n19 ev_UINT16) ev_BY (Term.int_eval _) A0.1).2.trans (congrArg some (by simp [own_exp]))
  have q6 : cl.slots[6]? = some (own_exp 6 w_NULL w_GUID w_STRING w_UINT16 w_INT32 w_INT64 w_BYTE w_BOOLEAN w_SBYTE w_FLOAT w_DOUBLE w_UINT32 w_UINT64 w_INT16 w_DATE_TIME w_BYTE_STRING w_STATUS_CODE) := (elem_in (EKit.evalEq n23 ev_INT32) ev_BY (Term.int_eval _) A0.1).2.trans (congrArg some (by simp [own_exp]))
  have q7 : cl.slots[7]? = some (own_exp 7 w_NULL w_GUID w_STRING w_UINT16 w_INT32 w_INT64 w_BYTE w_BOOLEAN w_SBYTE w_FLOAT w_DOUBLE w_UINT32 w_UINT64 w_INT16 w_DATE_TIME w_BYTE_STRING w_STATUS_CODE) := (elem_in (EKit.evalEq n65 ev_UINT32) ev_BY (Term.int_eval _) A0.1).2.trans (congrArg some (by simp [own_exp]))
  have q8 : cl.slots[8]? = some (own_exp 8 w_NULL w_GUID w_STRING w_UINT16 w_INT32 w_INT64 w_BYTE w_BOOLEAN w_SBYTE w_FLOAT w_DOUBLE w_UINT32 w_UINT64 w_INT16 w_DATE_TIME w_BYTE_STRING w_STATUS_CODE) := (elem_in (EKit.evalEq n29 ev_INT64) ev_BY (Term.int_eval _) A0.1).2.trans (congrArg some (by simp [own_exp]))
  have q9 : cl.slots[9]? = some (own_exp 9 w_NULL w_GUID w_STRING w_UINT16 w_INT32 w_INT64 w_BYTE w_BOOLEAN w_SBYTE w_FLOAT w_DOUBLE w_UINT32 w_UINT64 w_INT16 w_DATE_TIME w_BYTE_STRING w_STATUS_CODE) := (elem_in (EKit.evalEq n75 ev_UINT64) ev_BY (Term.int_eval _) A0.1).2.trans (congrArg some (by simp [own_exp]))
  have q10 : cl.slots[10]? = some (own_exp 10 w_NULL w_GUID w_STRING w_UINT16 w_INT32 w_INT64 w_BYTE w_BOOLEAN w_SBYTE w_FLOAT w_DOUBLE w_UINT32 w_UINT64 w_INT16 w_DATE_TIME w_BYTE_STRING w_STATUS_CODE) := (elem_in (EKit.evalEq n55 ev_FLOAT) ev_BY (Term.int_eval _) A0.1).2.trans (congrArg some (by simp [own_exp]))
  have q11 : cl.slots[11]? = some (own_exp 11 w_NULL w_GUID w_STRING w_UINT16 w_INT32 w_INT64 w_BYTE w_BOOLEAN w_SBYTE w_FLOAT w_DOUBLE w_UINT32 w_UINT64 w_INT16 w_DATE_TIME w_BYTE_STRING w_STATUS_CODE) := (elem_in (EKit.evalEq n59 ev_DOUBLE) ev_BY (Term.int_eval _) A0.1).2.trans (congrArg some (by simp [own_exp]))
  have q12 : cl.slots[12]? = some (own_exp 12 w_NULL w_GUID w_STRING w_UINT16 w_INT32 w_INT64 w_BYTE w_BOOLEAN w_SBYTE w_FLOAT w_DOUBLE w_UINT32 w_UINT64 w_INT16 w_DATE_TIME w_BYTE_STRING w_STATUS_CODE) := (elem_in (EKit.evalEq n15 ev_STRING) ev_BY (Term.int_eval _) A0.1).2.trans (congrArg some (by simp [own_exp]))
  have q13 : cl.slots[13]? = some (own_exp 13 w_NULL w_GUID w_STRING w_UINT16 w_INT32 w_INT64 w_BYTE w_BOOLEAN w_SBYTE w_FLOAT w_DOUBLE w_UINT32 w_UINT64 w_INT16 w_DATE_TIME w_BYTE_STRING w_STATUS_CODE) := (elem_in (EKit.evalEq n97 ev_DATE_TIME) ev_BY (Term.int_eval _) A0.1).2.trans (congrArg some (by simp [own_exp]))
  have q14 : cl.slots[14]? = some (own_exp 14 w_NULL w_GUID w_STRING w_UINT16 w_INT32 w_INT64 w_BYTE w_BOOLEAN w_SBYTE w_FLOAT w_DOUBLE w_UINT32 w_UINT64 w_INT16 w_DATE_TIME w_BYTE_STRING w_STATUS_CODE) := (elem_in (EKit.evalEq n11 ev_GUID) ev_BY (Term.int_eval _) A0.1).2.trans (congrArg some (by simp [own_exp]))
  have q15 : cl.slots[15]? = some (own_exp 15 w_NULL w_GUID w_STRING w_UINT16 w_INT32 w_INT64 w_BYTE w_BOOLEAN w_SBYTE w_FLOAT w_DOUBLE w_UINT32 w_UINT64 w_INT16 w_DATE_TIME w_BYTE_STRING w_STATUS_CODE) := (elem_in (EKit.evalEq n107 ev_BYTE_STRING) ev_BY (Term.int_eval _) A0.1).2.trans (congrArg some (by simp [own_exp]))
  have q16 : cl.slots[16]? = some (own_exp 16 w_NULL w_GUID w_STRING w_UINT16 w_INT32 w_INT64 w_BYTE w_BOOLEAN w_SBYTE w_FLOAT w_DOUBLE w_UINT32 w_UINT64 w_INT16 w_DATE_TIME w_BYTE_STRING w_STATUS_CODE) := (elem_in (EKit.evalEq n125 null_at) ev_BY (Term.int_eval _) A0.1).2.trans (congrArg some (by simp [own_exp]))
  have q17 : cl.slots[17]? = some (own_exp 17 w_NULL w_GUID w_STRING w_UINT16 w_INT32 w_INT64 w_BYTE w_BOOLEAN w_SBYTE w_FLOAT w_DOUBLE w_UINT32 w_UINT64 w_INT16 w_DATE_TIME w_BYTE_STRING w_STATUS_CODE) := (elem_in (EKit.evalEq n45 null_at) ev_BY (Term.int_eval _) A0.1).2.trans (congrArg some (by simp [own_exp]))
  have q18 : cl.slots[18]? = some (own_exp 18 w_NULL w_GUID w_STRING w_UINT16 w_INT32 w_INT64 w_BYTE w_BOOLEAN w_SBYTE w_FLOAT w_DOUBLE w_UINT32 w_UINT64 w_INT16 w_DATE_TIME w_BYTE_STRING w_STATUS_CODE) := (elem_in (EKit.evalEq n79 null_at) ev_BY (Term.int_eval _) A0.1).2.trans (congrArg some (by simp [own_exp]))
  have q19 : cl.slots[19]? = some (own_exp 19 w_NULL w_GUID w_STRING w_UINT16 w_INT32 w_INT64 w_BYTE w_BOOLEAN w_SBYTE w_FLOAT w_DOUBLE w_UINT32 w_UINT64 w_INT16 w_DATE_TIME w_BYTE_STRING w_STATUS_CODE) := (elem_in (EKit.evalEq n113 ev_STATUS_CODE) ev_BY (Term.int_eval _) A0.1).2.trans (congrArg some (by simp [own_exp]))
  have q20 : cl.slots[20]? = some (own_exp 20 w_NULL w_GUID w_STRING w_UINT16 w_INT32 w_INT64 w_BYTE w_BOOLEAN w_SBYTE w_FLOAT w_DOUBLE w_UINT32 w_UINT64 w_INT16 w_DATE_TIME w_BYTE_STRING w_STATUS_CODE) := (elem_in (EKit.evalEq n99 null_at) ev_BY (Term.int_eval _) A0.1).2.trans (congrArg some (by simp [own_exp]))
  have q21 : cl.slots[21]? = some (own_exp 21 w_NULL w_GUID w_STRING w_UINT16 w_INT32 w_INT64 w_BYTE w_BOOLEAN w_SBYTE w_FLOAT w_DOUBLE w_UINT32 w_UINT64 w_INT16 w_DATE_TIME w_BYTE_STRING w_STATUS_CODE) := (elem_in (EKit.evalEq n151 null_at) ev_BY (Term.int_eval _) A0.1).2.trans (congrArg some (by simp [own_exp]))
  have q22 : cl.slots[22]? = some (own_exp 22 w_NULL w_GUID w_STRING w_UINT16 w_INT32 w_INT64 w_BYTE w_BOOLEAN w_SBYTE w_FLOAT w_DOUBLE w_UINT32 w_UINT64 w_INT16 w_DATE_TIME w_BYTE_STRING w_STATUS_CODE) := (elem_in (EKit.evalEq n163 null_at) ev_BY (Term.int_eval _) A0.1).2.trans (congrArg some (by simp [own_exp]))
  have q23 : cl.slots[23]? = some (own_exp 23 w_NULL w_GUID w_STRING w_UINT16 w_INT32 w_INT64 w_BYTE w_BOOLEAN w_SBYTE w_FLOAT w_DOUBLE w_UINT32 w_UINT64 w_INT16 w_DATE_TIME w_BYTE_STRING w_STATUS_CODE) := (elem_in (EKit.evalEq n71 null_at) ev_BY (Term.int_eval _) A0.1).2.trans (congrArg some (by simp [own_exp]))
  have q24 : cl.slots[24]? = some (own_exp 24 w_NULL w_GUID w_STRING w_UINT16 w_INT32 w_INT64 w_BYTE w_BOOLEAN w_SBYTE w_FLOAT w_DOUBLE w_UINT32 w_UINT64 w_INT16 w_DATE_TIME w_BYTE_STRING w_STATUS_CODE) := (elem_in (EKit.evalEq n37 null_at) ev_BY (Term.int_eval _) A0.1).2.trans (congrArg some (by simp [own_exp]))
  have q25 : cl.slots[25]? = some (own_exp 25 w_NULL w_GUID w_STRING w_UINT16 w_INT32 w_INT64 w_BYTE w_BOOLEAN w_SBYTE w_FLOAT w_DOUBLE w_UINT32 w_UINT64 w_INT16 w_DATE_TIME w_BYTE_STRING w_STATUS_CODE) := (elem_in (EKit.evalEq n123 null_at) ev_BY (Term.int_eval _) A0.1).2.trans (congrArg some (by simp [own_exp]))
  have q26 : cl.slots[26]? = some (own_exp 26 w_NULL w_GUID w_STRING w_UINT16 w_INT32 w_INT64 w_BYTE w_BOOLEAN w_SBYTE w_FLOAT w_DOUBLE w_UINT32 w_UINT64 w_INT16 w_DATE_TIME w_BYTE_STRING w_STATUS_CODE) := (elem_in (EKit.evalEq n115 null_at) ev_BY (Term.int_eval _) A0.1).2.trans (congrArg some (by simp [own_exp]))
  have q27 : cl.slots[27]? = some (own_exp 27 w_NULL w_GUID w_STRING w_UINT16 w_INT32 w_INT64 w_BYTE w_BOOLEAN w_SBYTE w_FLOAT w_DOUBLE w_UINT32 w_UINT64 w_INT16 w_DATE_TIME w_BYTE_STRING w_STATUS_CODE) := (elem_in (EKit.evalEq n43 null_at) ev_BY (Term.int_eval _) A0.1).2.trans (congrArg some (by simp [own_exp]))
  have q28 : cl.slots[28]? = some (own_exp 28 w_NULL w_GUID w_STRING w_UINT16 w_INT32 w_INT64 w_BYTE w_BOOLEAN w_SBYTE w_FLOAT w_DOUBLE w_UINT32 w_UINT64 w_INT16 w_DATE_TIME w_BYTE_STRING w_STATUS_CODE) := (elem_in (EKit.evalEq n81 null_at) ev_BY (Term.int_eval _) A0.1).2.trans (congrArg some (by simp [own_exp]))
  have q29 : cl.slots[29]? = some (own_exp 29 w_NULL w_GUID w_STRING w_UINT16 w_INT32 w_INT64 w_BYTE w_BOOLEAN w_SBYTE w_FLOAT w_DOUBLE w_UINT32 w_UINT64 w_INT16 w_DATE_TIME w_BYTE_STRING w_STATUS_CODE) := (elem_in (EKit.evalEq n121 null_at) ev_BY (Term.int_eval _) A0.1).2.trans (congrArg some (by simp [own_exp]))
  have q30 : cl.slots[30]? = some (own_exp 30 w_NULL w_GUID w_STRING w_UINT16 w_INT32 w_INT64 w_BYTE w_BOOLEAN w_SBYTE w_FLOAT w_DOUBLE w_UINT32 w_UINT64 w_INT16 w_DATE_TIME w_BYTE_STRING w_STATUS_CODE) := (elem_in (EKit.evalEq n141 null_at) ev_BY (Term.int_eval _) A0.1).2.trans (congrArg some (by simp [own_exp]))
  have q31 : cl.slots[31]? = some (own_exp 31 w_NULL w_GUID w_STRING w_UINT16 w_INT32 w_INT64 w_BYTE w_BOOLEAN w_SBYTE w_FLOAT w_DOUBLE w_UINT32 w_UINT64 w_INT16 w_DATE_TIME w_BYTE_STRING w_STATUS_CODE) := (elem_in (EKit.evalEq n103 null_at) ev_BY (Term.int_eval _) A0.1).2.trans (congrArg some (by simp [own_exp]))
  have q32 : cl.slots[32]? = some (own_exp 32 w_NULL w_GUID w_STRING w_UINT16 w_INT32 w_INT64 w_BYTE w_BOOLEAN w_SBYTE w_FLOAT w_DOUBLE w_UINT32 w_UINT64 w_INT16 w_DATE_TIME w_BYTE_STRING w_STATUS_CODE) := (elem_in (EKit.evalEq n155 null_at) ev_BY (Term.int_eval _) A0.1).2.trans (congrArg some (by simp [own_exp]))
  have q33 : cl.slots[33]? = some (own_exp 33 w_NULL w_GUID w_STRING w_UINT16 w_INT32 w_INT64 w_BYTE w_BOOLEAN w_SBYTE w_FLOAT w_DOUBLE w_UINT32 w_UINT64 w_INT16 w_DATE_TIME w_BYTE_STRING w_STATUS_CODE) := (elem_in (EKit.evalEq n157 null_at) ev_BY (Term.int_eval _) A0.1).2.trans (congrArg some (by simp [own_exp]))
  have q34 : cl.slots[34]? = some (own_exp 34 w_NULL w_GUID w_STRING w_UINT16 w_INT32 w_INT64 w_BYTE w_BOOLEAN w_SBYTE w_FLOAT w_DOUBLE w_UINT32 w_UINT64 w_INT16 w_DATE_TIME w_BYTE_STRING w_STATUS_CODE) := (elem_in (EKit.evalEq n51 null_at) ev_BY (Term.int_eval _) A0.1).2.trans (congrArg some (by simp [own_exp]))
  have q35 : cl.slots[35]? = some (own_exp 35 w_NULL w_GUID w_STRING w_UINT16 w_INT32 w_INT64 w_BYTE w_BOOLEAN w_SBYTE w_FLOAT w_DOUBLE w_UINT32 w_UINT64 w_INT16 w_DATE_TIME w_BYTE_STRING w_STATUS_CODE) := (elem_in (EKit.evalEq n137 null_at) ev_BY (Term.int_eval _) A0.1).2.trans (congrArg some (by simp [own_exp]))
  have q36 : cl.slots[36]? = some (own_exp 36 w_NULL w_GUID w_STRING w_UINT16 w_INT32 w_INT64 w_BYTE w_BOOLEAN w_SBYTE w_FLOAT w_DOUBLE w_UINT32 w_UINT64 w_INT16 w_DATE_TIME w_BYTE_STRING w_STATUS_CODE) := (elem_in (EKit.evalEq n67 null_at) ev_BY (Term.int_eval _) A0.1).2.trans (congrArg some (by simp [own_exp]))
  have q37 : cl.slots[37]? = some (own_exp 37 w_NULL w_GUID w_STRING w_UINT16 w_INT32 w_INT64 w_BYTE w_BOOLEAN w_SBYTE w_FLOAT w_DOUBLE w_UINT32 w_UINT64 w_INT16 w_DATE_TIME w_BYTE_STRING w_STATUS_CODE) := (elem_in (EKit.evalEq n145 null_at) ev_BY (Term.int_eval _) A0.1).2.trans (congrArg some (by simp [own_exp]))
  have q38 : cl.slots[38]? = some (own_exp 38 w_NULL w_GUID w_STRING w_UINT16 w_INT32 w_INT64 w_BYTE w_BOOLEAN w_SBYTE w_FLOAT w_DOUBLE w_UINT32 w_UINT64 w_INT16 w_DATE_TIME w_BYTE_STRING w_STATUS_CODE) := (elem_in (EKit.evalEq n101 null_at) ev_BY (Term.int_eval _) A0.1).2.trans (congrArg some (by simp [own_exp]))
  have q39 : cl.slots[39]? = some (own_exp 39 w_NULL w_GUID w_STRING w_UINT16 w_INT32 w_INT64 w_BYTE w_BOOLEAN w_SBYTE w_FLOAT w_DOUBLE w_UINT32 w_UINT64 w_INT16 w_DATE_TIME w_BYTE_STRING w_STATUS_CODE) := (elem_in (EKit.evalEq n143 null_at) ev_BY (Term.int_eval _) A0.1).2.trans (congrArg some (by simp [own_exp]))
  have q40 : cl.slots[40]? = some (own_exp 40 w_NULL w_GUID w_STRING w_UINT16 w_INT32 w_INT64 w_BYTE w_BOOLEAN w_SBYTE w_FLOAT w_DOUBLE w_UINT32 w_UINT64 w_INT16 w_DATE_TIME w_BYTE_STRING w_STATUS_CODE) := (elem_in (EKit.evalEq n77 null_at) ev_BY (Term.int_eval _) A0.1).2.trans (congrArg some (by simp [own_exp]))
  have q41 : cl.slots[41]? = some (own_exp 41 w_NULL w_GUID w_STRING w_UINT16 w_INT32 w_INT64 w_BYTE w_BOOLEAN w_SBYTE w_FLOAT w_DOUBLE w_UINT32 w_UINT64 w_INT16 w_DATE_TIME w_BYTE_STRING w_STATUS_CODE) := (elem_in (EKit.evalEq n133 null_at) ev_BY (Term.int_eval _) A0.1).2.trans (congrArg some (by simp [own_exp]))
  have q42 : cl.slots[42]? = some (own_exp 42 w_NULL w_GUID w_STRING w_UINT16 w_INT32 w_INT64 w_BYTE w_BOOLEAN w_SBYTE w_FLOAT w_DOUBLE w_UINT32 w_UINT64 w_INT16 w_DATE_TIME w_BYTE_STRING w_STATUS_CODE) := (elem_in (EKit.evalEq n117 null_at) ev_BY (Term.int_eval _) A0.1).2.trans (congrArg some (by simp [own_exp]))
  have q43 : cl.slots[43]? = some (own_exp 43 w_NULL w_GUID w_STRING w_UINT16 w_INT32 w_INT64 w_BYTE w_BOOLEAN w_SBYTE w_FLOAT w_DOUBLE w_UINT32 w_UINT64 w_INT16 w_DATE_TIME w_BYTE_STRING w_STATUS_CODE) := (elem_in (EKit.evalEq n159 null_at) ev_BY (Term.int_eval _) A0.1).2.trans (congrArg some (by simp [own_exp]))
  have q44 : cl.slots[44]? = some (own_exp 44 w_NULL w_GUID w_STRING w_UINT16 w_INT32 w_INT64 w_BYTE w_BOOLEAN w_SBYTE w_FLOAT w_DOUBLE w_UINT32 w_UINT64 w_INT16 w_DATE_TIME w_BYTE_STRING w_STATUS_CODE) := (elem_in (EKit.evalEq n69 null_at) ev_BY (Term.int_eval _) A0.1).2.trans (congrArg some (by simp [own_exp]))
  have q45 : cl.slots[45]? = some (own_exp 45 w_NULL w_GUID w_STRING w_UINT16 w_INT32 w_INT64 w_BYTE w_BOOLEAN w_SBYTE w_FLOAT w_DOUBLE w_UINT32 w_UINT64 w_INT16 w_DATE_TIME w_BYTE_STRING w_STATUS_CODE) := (elem_in (EKit.evalEq n131 null_at) ev_BY (Term.int_eval _) A0.1).2.trans (congrArg some (by simp [own_exp]))
  have q46 : cl.slots[46]? = some (own_exp 46 w_NULL w_GUID w_STRING w_UINT16 w_INT32 w_INT64 w_BYTE w_BOOLEAN w_SBYTE w_FLOAT w_DOUBLE w_UINT32 w_UINT64 w_INT16 w_DATE_TIME w_BYTE_STRING w_STATUS_CODE) := (elem_in (EKit.evalEq n109 null_at) ev_BY (Term.int_eval _) A0.1).2.trans (congrArg some (by simp [own_exp]))
  have q47 : cl.slots[47]? = some (own_exp 47 w_NULL w_GUID w_STRING w_UINT16 w_INT32 w_INT64 w_BYTE w_BOOLEAN w_SBYTE w_FLOAT w_DOUBLE w_UINT32 w_UINT64 w_INT16 w_DATE_TIME w_BYTE_STRING w_STATUS_CODE) := (elem_in (EKit.evalEq n127 null_at) ev_BY (Term.int_eval _) A0.1).2.trans (congrArg some (by simp [own_exp]))
  have q48 : cl.slots[48]? = some (own_exp 48 w_NULL w_GUID w_STRING w_UINT16 w_INT32 w_INT64 w_BYTE w_BOOLEAN w_SBYTE w_FLOAT w_DOUBLE w_UINT32 w_UINT64 w_INT16 w_DATE_TIME w_BYTE_STRING w_STATUS_CODE) := (elem_in (EKit.evalEq n147 null_at) ev_BY (Term.int_eval _) A0.1).2.trans (congrArg some (by simp [own_exp]))
  have q49 : cl.slots[49]? = some (own_exp 49 w_NULL w_GUID w_STRING w_UINT16 w_INT32 w_INT64 w_BYTE w_BOOLEAN w_SBYTE w_FLOAT w_DOUBLE w_UINT32 w_UINT64 w_INT16 w_DATE_TIME w_BYTE_STRING w_STATUS_CODE) := (elem_in (EKit.evalEq n149 null_at) ev_BY (Term.int_eval _) A0.1).2.trans (congrArg some (by simp [own_exp]))
  have q50 : cl.slots[50]? = some (own_exp 50 w_NULL w_GUID w_STRING w_UINT16 w_INT32 w_INT64 w_BYTE w_BOOLEAN w_SBYTE w_FLOAT w_DOUBLE w_UINT32 w_UINT64 w_INT16 w_DATE_TIME w_BYTE_STRING w_STATUS_CODE) := (elem_in (EKit.evalEq n135 null_at) ev_BY (Term.int_eval _) A0.1).2.trans (congrArg some (by simp [own_exp]))
  have q51 : cl.slots[51]? = some (own_exp 51 w_NULL w_GUID w_STRING w_UINT16 w_INT32 w_INT64 w_BYTE w_BOOLEAN w_SBYTE w_FLOAT w_DOUBLE w_UINT32 w_UINT64 w_INT16 w_DATE_TIME w_BYTE_STRING w_STATUS_CODE) := (elem_in (EKit.evalEq n119 null_at) ev_BY (Term.int_eval _) A0.1).2.trans (congrArg some (by simp [own_exp]))
  have q52 : cl.slots[52]? = some (own_exp 52 w_NULL w_GUID w_STRING w_UINT16 w_INT32 w_INT64 w_BYTE w_BOOLEAN w_SBYTE w_FLOAT w_DOUBLE w_UINT32 w_UINT64 w_INT16 w_DATE_TIME w_BYTE_STRING w_STATUS_CODE) := (elem_in (EKit.evalEq n129 null_at) ev_BY (Term.int_eval _) A0.1).2.trans (congrArg some (by simp [own_exp]))
  have q53 : cl.slots[53]? = some (own_exp 53 w_NULL w_GUID w_STRING w_UINT16 w_INT32 w_INT64 w_BYTE w_BOOLEAN w_SBYTE w_FLOAT w_DOUBLE w_UINT32 w_UINT64 w_INT16 w_DATE_TIME w_BYTE_STRING w_STATUS_CODE) := (elem_in (EKit.evalEq n91 null_at) ev_BY (Term.int_eval _) A0.1).2.trans (congrArg some (by simp [own_exp]))
  have q54 : cl.slots[54]? = some (own_exp 54 w_NULL w_GUID w_STRING w_UINT16 w_INT32 w_INT64 w_BYTE w_BOOLEAN w_SBYTE w_FLOAT w_DOUBLE w_UINT32 w_UINT64 w_INT16 w_DATE_TIME w_BYTE_STRING w_STATUS_CODE) := (elem_in (EKit.evalEq n31 null_at) ev_BY (Term.int_eval _) A0.1).2.trans (congrArg some (by simp [own_exp]))
  have q55 : cl.slots[55]? = some (own_exp 55 w_NULL w_GUID w_STRING w_UINT16 w_INT32 w_INT64 w_BYTE w_BOOLEAN w_SBYTE w_FLOAT w_DOUBLE w_UINT32 w_UINT64 w_INT16 w_DATE_TIME w_BYTE_STRING w_STATUS_CODE) := (elem_in (EKit.evalEq n161 null_at) ev_BY (Term.int_eval _) A0.1).2.trans (congrArg some (by simp [own_exp]))
  have q56 : cl.slots[56]? = some (own_exp 56 w_NULL w_GUID w_STRING w_UINT16 w_INT32 w_INT64 w_BYTE w_BOOLEAN w_SBYTE w_FLOAT w_DOUBLE w_UINT32 w_UINT64 w_INT16 w_DATE_TIME w_BYTE_STRING w_STATUS_CODE) := (elem_in (EKit.evalEq n25 null_at) ev_BY (Term.int_eval _) A0.1).2.trans (congrArg some (by simp [own_exp]))
  have q57 : cl.slots[57]? = some (own_exp 57 w_NULL w_GUID w_STRING w_UINT16 w_INT32 w_INT64 w_BYTE w_BOOLEAN w_SBYTE w_FLOAT w_DOUBLE w_UINT32 w_UINT64 w_INT16 w_DATE_TIME w_BYTE_STRING w_STATUS_CODE) := (elem_in (EKit.evalEq n164 null_at) ev_BY (Term.int_eval _) A0.1).2.trans (congrArg some (by simp [own_exp]))
  have q58 : cl.slots[58]? = some (own_exp 58 w_NULL w_GUID w_STRING w_UINT16 w_INT32 w_INT64 w_BYTE w_BOOLEAN w_SBYTE w_FLOAT w_DOUBLE w_UINT32 w_UINT64 w_INT16 w_DATE_TIME w_BYTE_STRING w_STATUS_CODE) := (elem_in (EKit.evalEq n93 null_at) ev_BY (Term.int_eval _) A0.1).2.trans (congrArg some (by simp [own_exp]))
  have q59 : cl.slots[59]? = some (own_exp 59 w_NULL w_GUID w_STRING w_UINT16 w_INT32 w_INT64 w_BYTE w_BOOLEAN w_SBYTE w_FLOAT w_DOUBLE w_UINT32 w_UINT64 w_INT16 w_DATE_TIME w_BYTE_STRING w_STATUS_CODE) := (elem_in (EKit.evalEq n89 null_at) ev_BY (Term.int_eval _) A0.1).2.trans (congrArg some (by simp [own_exp]))
  have q60 : cl.slots[60]? = some (own_exp 60 w_NULL w_GUID w_STRING w_UINT16 w_INT32 w_INT64 w_BYTE w_BOOLEAN w_SBYTE w_FLOAT w_DOUBLE w_UINT32 w_UINT64 w_INT16 w_DATE_TIME w_BYTE_STRING w_STATUS_CODE) := (elem_in (EKit.evalEq n61 null_at) ev_BY (Term.int_eval _) A0.1).2.trans (congrArg some (by simp [own_exp]))
  have q61 : cl.slots[61]? = some (own_exp 61 w_NULL w_GUID w_STRING w_UINT16 w_INT32 w_INT64 w_BYTE w_BOOLEAN w_SBYTE w_FLOAT w_DOUBLE w_UINT32 w_UINT64 w_INT16 w_DATE_TIME w_BYTE_STRING w_STATUS_CODE) := (elem_in (EKit.evalEq n83 null_at) ev_BY (Term.int_eval _) A0.1).2.trans (congrArg some (by simp [own_exp]))
  have q62 : cl.slots[62]? = some (own_exp 62 w_NULL w_GUID w_STRING w_UINT16 w_INT32 w_INT64 w_BYTE w_BOOLEAN w_SBYTE w_FLOAT w_DOUBLE w_UINT32 w_UINT64 w_INT16 w_DATE_TIME w_BYTE_STRING w_STATUS_CODE) := (elem_in (EKit.evalEq n153 null_at) ev_BY (Term.int_eval _) A0.1).2.trans (congrArg some (by simp [own_exp]))
  have q63 : cl.slots[63]? = some (own_exp 63 w_NULL w_GUID w_STRING w_UINT16 w_INT32 w_INT64 w_BYTE w_BOOLEAN w_SBYTE w_FLOAT w_DOUBLE w_UINT32 w_UINT64 w_INT16 w_DATE_TIME w_BYTE_STRING w_STATUS_CODE) := (elem_in (EKit.evalEq n139 null_at) ev_BY (Term.int_eval _) A0.1).2.trans (congrArg some (by simp [own_exp]))
  have A_BY : Ary s s.heap w_BY cl.cls (.object "com/example/pubframe/pubframe/message/BuiltInType") (64 : Int32) (fun j => own_exp j w_NULL w_GUID w_STRING w_UINT16 w_INT32 w_INT64 w_BYTE w_BOOLEAN w_SBYTE w_FLOAT w_DOUBLE w_UINT32 w_UINT64 w_INT16 w_DATE_TIME w_BYTE_STRING w_STATUS_CODE) := by
    refine Ary.start A0 r2 r3 fun i hi => ?_
    match i, hi with
    | 0, _ => exact q0
    | 1, _ => exact q1
    | 2, _ => exact q2
    | 3, _ => exact q3
    | 4, _ => exact q4
    | 5, _ => exact q5
    | 6, _ => exact q6
    | 7, _ => exact q7
    | 8, _ => exact q8
    | 9, _ => exact q9
    | 10, _ => exact q10
    | 11, _ => exact q11
    | 12, _ => exact q12
    | 13, _ => exact q13
    | 14, _ => exact q14
    | 15, _ => exact q15
    | 16, _ => exact q16
    | 17, _ => exact q17
    | 18, _ => exact q18
    | 19, _ => exact q19
    | 20, _ => exact q20
    | 21, _ => exact q21
    | 22, _ => exact q22
    | 23, _ => exact q23
    | 24, _ => exact q24
    | 25, _ => exact q25
    | 26, _ => exact q26
    | 27, _ => exact q27
    | 28, _ => exact q28
    | 29, _ => exact q29
    | 30, _ => exact q30
    | 31, _ => exact q31
    | 32, _ => exact q32
    | 33, _ => exact q33
    | 34, _ => exact q34
    | 35, _ => exact q35
    | 36, _ => exact q36
    | 37, _ => exact q37
    | 38, _ => exact q38
    | 39, _ => exact q39
    | 40, _ => exact q40
    | 41, _ => exact q41
    | 42, _ => exact q42
    | 43, _ => exact q43
    | 44, _ => exact q44
    | 45, _ => exact q45
    | 46, _ => exact q46
    | 47, _ => exact q47
    | 48, _ => exact q48
    | 49, _ => exact q49
    | 50, _ => exact q50
    | 51, _ => exact q51
    | 52, _ => exact q52
    | 53, _ => exact q53
    | 54, _ => exact q54
    | 55, _ => exact q55
    | 56, _ => exact q56
    | 57, _ => exact q57
    | 58, _ => exact q58
    | 59, _ => exact q59
    | 60, _ => exact q60
    | 61, _ => exact q61
    | 62, _ => exact q62
    | 63, _ => exact q63
    | i + 64, hi => exact absurd hi (by simp [show (64 : Int32).toNatClampNeg = 64 from rfl])
  obtain ⟨n, o, h1, h2, h3, _, L, rfl, ⟨rfl, N⟩, hq⟩ := rm0 l s _ hw tables_1 i0 i1 s.heap w_NULL w_GUID w_STRING w_UINT16 w_INT32 w_INT64 w_BYTE w_BOOLEAN w_SBYTE w_FLOAT w_DOUBLE w_UINT32 w_UINT64 w_INT16 w_DATE_TIME w_BYTE_STRING w_STATUS_CODE S_NULL S_GUID S_STRING S_UINT16 S_INT32 S_INT64 S_BYTE S_BOOLEAN S_SBYTE S_FLOAT S_DOUBLE S_UINT32 S_UINT64 S_INT16 S_DATE_TIME S_BYTE_STRING S_STATUS_CODE w_BY cl.cls S_BY A_BY p e ha hc hk s m _ below hf ((Spec.applies_iff_loose hf).mp happ).1 ⟨rfl, State.Warmed39.refl s, rfl⟩ trivial
  refine ⟨n, _, h1, h2, h3, hpost _ _ _ _ _ _ ⟨Cond.after_iff.mpr rfl, Cond.after_iff.mpr (eq_i res_at (Term.int_eval (1)) rfl), trivial⟩ ⟨hq.1, hq.2.1, (hq.2.2.sift fun y hy => Or.inr (N y hy)).mono (by decide) (by decide)⟩⟩
theorem main_1_1 : Claimed_1_1 := comes_1 fun _ _ _ _ _ _ h hF => ⟨h.1, hF⟩
theorem main_1_2 : Claimed_1_2 := comes_1 fun _ _ _ _ _ _ h hF => ⟨h.2.1, hF⟩
end Jvm.Pilot.@@N@@
namespace Jvm.Pilot.@@N@@
open Jvm Jvm.ClassFile Sem Op Lib Jvm.Free Jvm.Stand Jvm.Pilot.@@N@@.Jvm.D
/-! MADE BY PROGRAM (witnessworld.py) out of the Statement's table words and the real class files: 13 classes; the members and pool entries that the words name. The judged class is class 1, her method 2. -/
namespace start1
open Jvm.ClassFile
def u (s : String) : CpInfo := .utf8 (stringToUtf16 s)
/-- a pool by its gaps: so many unusable entries, then the entry; so many at the end -/
def gap : Nat → List CpInfo → List CpInfo
  | 0, r => r
  | n + 1, r => .unusable :: gap n r
def poolList (es : List (Nat × CpInfo)) (last : Nat) : List CpInfo := es.foldr (fun e r => gap e.1 (e.2 :: r)) (gap last [])
def pool (es : List (Nat × CpInfo)) (last : Nat) : Array CpInfo := ⟨poolList es last⟩
def fileOf (pool : Array CpInfo) (this : Nat) (attrs : Array Attribute := #[]) (ms : Array MethodInfo := #[]) (fl : Nat := 33) (sup : Nat := 0) (ifs : Array Nat := #[]) (fds : Array FieldInfo := #[]) : ClassFile where
  minorVersion := 0
  majorVersion := 65
  constantPool := pool
  accessFlags := fl
  thisClass := this
  superClass := sup
  interfaces := ifs
  fields := fds
  methods := ms
  attributes := attrs
def plain (name : String) (sup : Option ClassId) : Class where
  name := name
  kind := .ordinary
  loader := none
  accessFlags := 33
  super := sup
  interfaces := #[]
  cf := none
  fields := #[]
  methods := #[]
  instanceTypes := #[]
  staticTypes := #[]
  resolved := #[]
  callSites := []
  init := .initialized
  statics := none
  mirror := none

def pool0 : Array CpInfo := pool [(5, u "<init>"), (0, u "()V"), (1, .class_ 10), (1, u "java/lang/Object")] 113

def k0m0 : Method := { name := "<init>", desc := "()V", sig := { parameters := [], returnType := none }, accessFlags := 1, code := none }
/-- java/lang/Object -/
def k0 : Class := { plain "java/lang/Object" none with
  accessFlags := 33
  interfaces := #[]
  cf := some (fileOf pool0 8 #[] #[{ accessFlags := 1, nameIndex := 5, descriptorIndex := 6, attributes := #[] }] 33 0 #[] #[])
  fields := #[]
  methods := #[k0m0]
  instanceTypes := #[]
  staticTypes := #[]
  resolved := Array.replicate 124 none
  statics := none }

def pool1 : Array CpInfo := pool [(2, .class_ 4), (1, u "java/lang/Object"), (0, u "<init>"), (0, u "()V"), (0, .fieldref 8 9), (0, .class_ 10), (0, .nameAndType 11 12), (0, u "com/example/pubframe/pubframe/message/BuiltInType"), (0, u "NULL"), (0, u "Lcom/example/pubframe/pubframe/message/BuiltInType;"), (0, .fieldref 8 14), (0, .nameAndType 15 12), (0, u "BOOLEAN"), (0, .fieldref 8 17), (0, .nameAndType 18 12), (0, u "SBYTE"), (0, .fieldref 8 20), (0, .nameAndType 21 12), (0, u "BYTE"), (0, .fieldref 8 23), (0, .nameAndType 24 12), (0, u "INT16"), (0, .fieldref 8 26), (0, .nameAndType 27 12), (0, u "UINT16"), (0, .fieldref 8 29), (0, .nameAndType 30 12), (0, u "INT32"), (0, .fieldref 8 32), (0, .nameAndType 33 12), (0, u "UINT32"), (0, .fieldref 8 35), (0, .nameAndType 36 12), (0, u "INT64"), (0, .fieldref 8 38), (0, .nameAndType 39 12), (0, u "UINT64"), (0, .fieldref 8 41), (0, .nameAndType 42 12), (0, u "FLOAT"), (0, .fieldref 8 44), (0, .nameAndType 45 12), (0, u "DOUBLE"), (0, .fieldref 8 47), (0, .nameAndType 48 12), (0, u "STRING"), (0, .fieldref 8 50), (0, .nameAndType 51 12), (0, u "DATE_TIME"), (0, .fieldref 8 53), (0, .nameAndType 54 12), (0, u "GUID"), (0, .fieldref 8 56), (0, .nameAndType 57 12), (0, u "BYTE_STRING"), (0, .fieldref 8 59), (0, .nameAndType 60 12), (0, u "STATUS_CODE"), (0, .methodref 8 62), (0, .nameAndType 63 64), (0, u "forId"), (0, u "(I)Lcom/example/pubframe/pubframe/message/BuiltInType;"), (0, .methodref 66 67), (0, .class_ 68), (0, .nameAndType 69 64), (0, u "com/example/pubframe/pubframe/message/BuiltInTypeForIdPinLaw"), (0, u "expected"), (3, u "law"), (0, u "(II)Z")] 2

def k1m0 : Method := { name := "<init>", desc := "()V", sig := { parameters := [], returnType := none }, accessFlags := 2, code := none }
def k1c1 : Code := { maxStack := 2, maxLocals := 1, code := method_2_code, exceptionTable := #[], attributes := #[] }
def k1m1 : Method := { name := "expected", desc := "(I)Lcom/example/pubframe/pubframe/message/BuiltInType;", sig := { parameters := [.int], returnType := some (.object "com/example/pubframe/pubframe/message/BuiltInType") }, accessFlags := 10, code := some k1c1 }
def k1c2 : Code := { maxStack := 2, maxLocals := 3, code := code, exceptionTable := #[], attributes := #[] }
def k1m2 : Method := { name := "law", desc := "(II)Z", sig := { parameters := [.int, .int], returnType := some .boolean }, accessFlags := 9, code := some k1c2 }
/-- com/example/pubframe/pubframe/message/BuiltInTypeForIdPinLaw -/
def k1 : Class := { plain "com/example/pubframe/pubframe/message/BuiltInTypeForIdPinLaw" (some 0) with
  accessFlags := 49
  interfaces := #[]
  cf := some (fileOf pool1 66 #[] #[{ accessFlags := 2, nameIndex := 5, descriptorIndex := 6, attributes := #[] }, { accessFlags := 10, nameIndex := 69, descriptorIndex := 64, attributes := #[] }, { accessFlags := 9, nameIndex := 73, descriptorIndex := 74, attributes := #[] }] 49 2 #[] #[])
  fields := #[]
  methods := #[k1m0, k1m1, k1m2]
  instanceTypes := #[]
  staticTypes := #[]
  resolved := Array.replicate 77 none
  statics := none }

def pool2 : Array CpInfo := pool [(1, .class_ 2), (0, u "java/lang/constant/Constable"), (0, .class_ 4), (0, u "java/lang/Object")] 6

/-- java/lang/constant/Constable -/
def k2 : Class := { plain "java/lang/constant/Constable" (some 0) with
  accessFlags := 1537
  interfaces := #[]
  cf := some (fileOf pool2 1 #[] #[] 1537 3 #[] #[])
  fields := #[]
  methods := #[]
  instanceTypes := #[]
  staticTypes := #[]
  resolved := Array.replicate 11 none
  statics := none }

def pool3 : Array CpInfo := pool [(1, .class_ 2), (0, u "java/lang/Comparable"), (0, .class_ 4), (0, u "java/lang/Object")] 7

/-- java/lang/Comparable -/
def k3 : Class := { plain "java/lang/Comparable" (some 0) with
  accessFlags := 1537
  interfaces := #[]
  cf := some (fileOf pool3 1 #[] #[] 1537 3 #[] #[])
  fields := #[]
  methods := #[]
  instanceTypes := #[]
  staticTypes := #[]
  resolved := Array.replicate 12 none
  statics := none }

def pool4 : Array CpInfo := pool [(1, .class_ 2), (0, u "java/io/Serializable"), (0, .class_ 4), (0, u "java/lang/Object")] 2

/-- java/io/Serializable -/
def k4 : Class := { plain "java/io/Serializable" (some 0) with
  accessFlags := 1537
  interfaces := #[]
  cf := some (fileOf pool4 1 #[] #[] 1537 3 #[] #[])
  fields := #[]
  methods := #[]
  instanceTypes := #[]
  staticTypes := #[]
  resolved := Array.replicate 7 none
  statics := none }

def pool5 : Array CpInfo := pool [(2, .class_ 4), (1, u "java/lang/Enum"), (0, u "name"), (0, u "Ljava/lang/String;"), (2, u "ordinal"), (0, u "I"), (1, .class_ 14), (1, u "java/lang/Object"), (4, u "hash"), (86, .class_ 108), (1, u "java/lang/Enum$EnumDesc"), (2, .class_ 112), (0, u "java/lang/constant/Constable"), (0, .class_ 114), (0, u "java/lang/Comparable"), (0, .class_ 116), (0, u "java/io/Serializable")] 87

/-- java/lang/Enum -/
def k5 : Class := { plain "java/lang/Enum" (some 0) with
  accessFlags := 1057
  interfaces := #[2, 3, 4]
  cf := some (fileOf pool5 2 #[.nestMembers #[106]] #[] 1057 12 #[111, 113, 115] #[{ accessFlags := 18, nameIndex := 5, descriptorIndex := 6, attributes := #[] }, { accessFlags := 18, nameIndex := 9, descriptorIndex := 10, attributes := #[] }, { accessFlags := 2, nameIndex := 19, descriptorIndex := 10, attributes := #[] }])
  fields := #[{ name := "name", type := (.object "java/lang/String"), accessFlags := 18, slot := 0, constantValue := 0 }, { name := "ordinal", type := .int, accessFlags := 18, slot := 1, constantValue := 0 }, { name := "hash", type := .int, accessFlags := 2, slot := 2, constantValue := 0 }]
  methods := #[]
  instanceTypes := #[(.object "java/lang/String"), .int, .int]
  staticTypes := #[]
  resolved := Array.replicate 204 none
  statics := none }

def pool6 : Array CpInfo := pool [(1, .class_ 2), (0, u "com/example/pubframe/pubframe/message/BuiltInType"), (2, u "NULL"), (0, u "Lcom/example/pubframe/pubframe/message/BuiltInType;"), (2, u "BOOLEAN"), (2, u "SBYTE"), (2, u "BYTE"), (2, u "INT16"), (2, u "UINT16"), (2, u "INT32"), (2, u "UINT32"), (2, u "INT64"), (2, u "UINT64"), (2, u "FLOAT"), (2, u "DOUBLE"), (2, u "STRING"), (2, u "DATE_TIME"), (2, u "GUID"), (2, u "BYTE_STRING"), (2, u "STATUS_CODE"), (2, u "$VALUES"), (0, u "[Lcom/example/pubframe/pubframe/message/BuiltInType;"), (6, .class_ 67), (1, u "java/lang/Enum"), (8, u "id"), (0, u "I"), (2, u "specName"), (0, u "Ljava/lang/String;"), (2, u "javaType"), (0, u "Ljava/lang/Class;"), (0, .fieldref 1 87), (0, .nameAndType 88 58), (0, u "BY_ID"), (92, u "forId"), (0, u "(I)Lcom/example/pubframe/pubframe/message/BuiltInType;")] 12

def k6c0 : Code := { maxStack := 2, maxLocals := 1, code := prog_26_method_4_code, exceptionTable := #[], attributes := #[] }
def k6m0 : Method := { name := "forId", desc := "(I)Lcom/example/pubframe/pubframe/message/BuiltInType;", sig := { parameters := [.int], returnType := some (.object "com/example/pubframe/pubframe/message/BuiltInType") }, accessFlags := 9, code := some k6c0 }
/-- com/example/pubframe/pubframe/message/BuiltInType -/
def k6 : Class := { plain "com/example/pubframe/pubframe/message/BuiltInType" (some 5) with
  accessFlags := 16433
  interfaces := #[]
  cf := some (fileOf pool6 1 #[] #[{ accessFlags := 9, nameIndex := 181, descriptorIndex := 182, attributes := #[] }] 16433 65 #[] #[{ accessFlags := 16409, nameIndex := 5, descriptorIndex := 6, attributes := #[] }, { accessFlags := 16409, nameIndex := 9, descriptorIndex := 6, attributes := #[] }, { accessFlags := 16409, nameIndex := 12, descriptorIndex := 6, attributes := #[] }, { accessFlags := 16409, nameIndex := 15, descriptorIndex := 6, attributes := #[] }, { accessFlags := 16409, nameIndex := 18, descriptorIndex := 6, attributes := #[] }, { accessFlags := 16409, nameIndex := 21, descriptorIndex := 6, attributes := #[] }, { accessFlags := 16409, nameIndex := 24, descriptorIndex := 6, attributes := #[] }, { accessFlags := 16409, nameIndex := 27, descriptorIndex := 6, attributes := #[] }, { accessFlags := 16409, nameIndex := 30, descriptorIndex := 6, attributes := #[] }, { accessFlags := 16409, nameIndex := 33, descriptorIndex := 6, attributes := #[] }, { accessFlags := 16409, nameIndex := 36, descriptorIndex := 6, attributes := #[] }, { accessFlags := 16409, nameIndex := 39, descriptorIndex := 6, attributes := #[] }, { accessFlags := 16409, nameIndex := 42, descriptorIndex := 6, attributes := #[] }, { accessFlags := 16409, nameIndex := 45, descriptorIndex := 6, attributes := #[] }, { accessFlags := 16409, nameIndex := 48, descriptorIndex := 6, attributes := #[] }, { accessFlags := 16409, nameIndex := 51, descriptorIndex := 6, attributes := #[] }, { accessFlags := 16409, nameIndex := 54, descriptorIndex := 6, attributes := #[] }, { accessFlags := 26, nameIndex := 88, descriptorIndex := 58, attributes := #[] }, { accessFlags := 18, nameIndex := 76, descriptorIndex := 77, attributes := #[] }, { accessFlags := 18, nameIndex := 80, descriptorIndex := 81, attributes := #[] }, { accessFlags := 18, nameIndex := 84, descriptorIndex := 85, attributes := #[] }, { accessFlags := 4122, nameIndex := 57, descriptorIndex := 58, attributes := #[] }])
  fields := #[{ name := "NULL", type := (.object "com/example/pubframe/pubframe/message/BuiltInType"), accessFlags := 16409, slot := 0, constantValue := 0 }, { name := "BOOLEAN", type := (.object "com/example/pubframe/pubframe/message/BuiltInType"), accessFlags := 16409, slot := 1, constantValue := 0 }, { name := "SBYTE", type := (.object "com/example/pubframe/pubframe/message/BuiltInType"), accessFlags := 16409, slot := 2, constantValue := 0 }, { name := "BYTE", type := (.object "com/example/pubframe/pubframe/message/BuiltInType"), accessFlags := 16409, slot := 3, constantValue := 0 }, { name := "INT16", type := (.object "com/example/pubframe/pubframe/message/BuiltInType"), accessFlags := 16409, slot := 4, constantValue := 0 }, { name := "UINT16", type := (.object "com/example/pubframe/pubframe/message/BuiltInType"), accessFlags := 16409, slot := 5, constantValue := 0 }, { name := "INT32", type := (.object "com/example/pubframe/pubframe/message/BuiltInType"), accessFlags := 16409, slot := 6, constantValue := 0 }, { name := "UINT32", type := (.object "com/example/pubframe/pubframe/message/BuiltInType"), accessFlags := 16409, slot := 7, constantValue := 0 }, { name := "INT64", type := (.object "com/example/pubframe/pubframe/message/BuiltInType"), accessFlags := 16409, slot := 8, constantValue := 0 }, { name := "UINT64", type := (.object "com/example/pubframe/pubframe/message/BuiltInType"), accessFlags := 16409, slot := 9, constantValue := 0 }, { name := "FLOAT", type := (.object "com/example/pubframe/pubframe/message/BuiltInType"), accessFlags := 16409, slot := 10, constantValue := 0 }, { name := "DOUBLE", type := (.object "com/example/pubframe/pubframe/message/BuiltInType"), accessFlags := 16409, slot := 11, constantValue := 0 }, { name := "STRING", type := (.object "com/example/pubframe/pubframe/message/BuiltInType"), accessFlags := 16409, slot := 12, constantValue := 0 }, { name := "DATE_TIME", type := (.object "com/example/pubframe/pubframe/message/BuiltInType"), accessFlags := 16409, slot := 13, constantValue := 0 }, { name := "GUID", type := (.object "com/example/pubframe/pubframe/message/BuiltInType"), accessFlags := 16409, slot := 14, constantValue := 0 }, { name := "BYTE_STRING", type := (.object "com/example/pubframe/pubframe/message/BuiltInType"), accessFlags := 16409, slot := 15, constantValue := 0 }, { name := "STATUS_CODE", type := (.object "com/example/pubframe/pubframe/message/BuiltInType"), accessFlags := 16409, slot := 16, constantValue := 0 }, { name := "BY_ID", type := (.array (.object "com/example/pubframe/pubframe/message/BuiltInType")), accessFlags := 26, slot := 17, constantValue := 0 }, { name := "id", type := .int, accessFlags := 18, slot := 3, constantValue := 0 }, { name := "specName", type := (.object "java/lang/String"), accessFlags := 18, slot := 4, constantValue := 0 }, { name := "javaType", type := (.object "java/lang/Class"), accessFlags := 18, slot := 5, constantValue := 0 }, { name := "$VALUES", type := (.array (.object "com/example/pubframe/pubframe/message/BuiltInType")), accessFlags := 4122, slot := 18, constantValue := 0 }]
  methods := #[k6m0]
  instanceTypes := #[(.object "java/lang/String"), .int, .int, .int, (.object "java/lang/String"), (.object "java/lang/Class")]
  staticTypes := #[(.object "com/example/pubframe/pubframe/message/BuiltInType"), (.object "com/example/pubframe/pubframe/message/BuiltInType"), (.object "com/example/pubframe/pubframe/message/BuiltInType"), (.object "com/example/pubframe/pubframe/message/BuiltInType"), (.object "com/example/pubframe/pubframe/message/BuiltInType"), (.object "com/example/pubframe/pubframe/message/BuiltInType"), (.object "com/example/pubframe/pubframe/message/BuiltInType"), (.object "com/example/pubframe/pubframe/message/BuiltInType"), (.object "com/example/pubframe/pubframe/message/BuiltInType"), (.object "com/example/pubframe/pubframe/message/BuiltInType"), (.object "com/example/pubframe/pubframe/message/BuiltInType"), (.object "com/example/pubframe/pubframe/message/BuiltInType"), (.object "com/example/pubframe/pubframe/message/BuiltInType"), (.object "com/example/pubframe/pubframe/message/BuiltInType"), (.object "com/example/pubframe/pubframe/message/BuiltInType"), (.object "com/example/pubframe/pubframe/message/BuiltInType"), (.object "com/example/pubframe/pubframe/message/BuiltInType"), (.array (.object "com/example/pubframe/pubframe/message/BuiltInType")), (.array (.object "com/example/pubframe/pubframe/message/BuiltInType"))]
  resolved := Array.replicate 195 none
  statics := some 0 }

def pool7 : Array CpInfo := pool [(1, u "java/lang/Cloneable"), (0, .class_ 1), (0, u "java/lang/Object"), (0, .class_ 3)] 3

/-- java/lang/Cloneable -/
def k7 : Class := { plain "java/lang/Cloneable" (some 0) with
  accessFlags := 1537
  interfaces := #[]
  cf := some (fileOf pool7 2 #[] #[] 1537 4 #[] #[])
  fields := #[]
  methods := #[]
  instanceTypes := #[]
  staticTypes := #[]
  resolved := Array.replicate 8 none
  statics := none }

/-- the primitive byte -/
def k8 : Class := { plain "byte" none with kind := .primitive 'B', accessFlags := 0x411 }
/-- [B -/
def k9 : Class := { plain "[B" (some 0) with kind := .array 8 .byte, interfaces := #[7, 4], accessFlags := 1041 }

/-- the primitive int -/
def k10 : Class := { plain "int" none with kind := .primitive 'I', accessFlags := 0x411 }
/-- [I -/
def k11 : Class := { plain "[I" (some 0) with kind := .array 10 .int, interfaces := #[7, 4], accessFlags := 1041 }

/-- [Lcom/example/pubframe/pubframe/message/BuiltInType; -/
def k12 : Class := { plain "[Lcom/example/pubframe/pubframe/message/BuiltInType;" (some 0) with kind := .array 6 (.object "com/example/pubframe/pubframe/message/BuiltInType"), interfaces := #[7, 4], accessFlags := 1041 }

def heap : Heap := #[{ cls := 6, slots := #[.ref 2, .ref 9, .ref 10, .ref 8, .ref 15, .ref 5, .ref 6, .ref 13, .ref 7, .ref 14, .ref 11, .ref 12, .ref 4, .ref 16, .ref 3, .ref 17, .ref 18, .ref 1, .null], vm := .statics 6 },
  { cls := 12, slots := #[.ref 2, .ref 9, .ref 10, .ref 8, .ref 15, .ref 5, .ref 6, .ref 13, .ref 7, .ref 14, .ref 11, .ref 12, .ref 4, .ref 16, .ref 3, .ref 17, .null, .null, .null, .ref 18, .null, .null, .null, .null, .null, .null, .null, .null, .null, .null, .null, .null, .null, .null, .null, .null, .null, .null, .null, .null, .null, .null, .null, .null, .null, .null, .null, .null, .null, .null, .null, .null, .null, .null, .null, .null, .null, .null, .null, .null, .null, .null, .null, .null], vm := .none },
  { cls := 6, slots := #[.null, .int 0, .int 0, .int 0, .null, .null], vm := .none },
  { cls := 6, slots := #[.null, .int 1, .int 0, .int 0, .null, .null], vm := .none },
  { cls := 6, slots := #[.null, .int 2, .int 0, .int 0, .null, .null], vm := .none },
  { cls := 6, slots := #[.null, .int 3, .int 0, .int 0, .null, .null], vm := .none },
  { cls := 6, slots := #[.null, .int 4, .int 0, .int 0, .null, .null], vm := .none },
  { cls := 6, slots := #[.null, .int 5, .int 0, .int 0, .null, .null], vm := .none },
  { cls := 6, slots := #[.null, .int 6, .int 0, .int 0, .null, .null], vm := .none },
  { cls := 6, slots := #[.null, .int 7, .int 0, .int 0, .null, .null], vm := .none },
  { cls := 6, slots := #[.null, .int 8, .int 0, .int 0, .null, .null], vm := .none },
  { cls := 6, slots := #[.null, .int 9, .int 0, .int 0, .null, .null], vm := .none },
  { cls := 6, slots := #[.null, .int 10, .int 0, .int 0, .null, .null], vm := .none },
  { cls := 6, slots := #[.null, .int 11, .int 0, .int 0, .null, .null], vm := .none },
  { cls := 6, slots := #[.null, .int 12, .int 0, .int 0, .null, .null], vm := .none },
  { cls := 6, slots := #[.null, .int 13, .int 0, .int 0, .null, .null], vm := .none },
  { cls := 6, slots := #[.null, .int 14, .int 0, .int 0, .null, .null], vm := .none },
  { cls := 6, slots := #[.null, .int 15, .int 0, .int 0, .null, .null], vm := .none },
  { cls := 6, slots := #[.null, .int 16, .int 0, .int 0, .null, .null], vm := .none }]
def classes : Array Class := #[k0, k1, k2, k3, k4, k5, k6, k7, k8, k9, k10, k11, k12]
def interned : List (Array UInt16 × Addr) := []
def slotsUsed : Nat := 185
def theMethod : MethodId := ⟨1, 2⟩
def args0 : Array Value := #[.int 5, .int 9]
def aboutOver (below : List Frame) : State where
  vm := { classes := classes, interned := interned.toArray }
  heap := heap
  slotsUsed := slotsUsed
  threads := #[{ frames := .invoking theMethod args0 :: below }]
def below0 : List Frame := [.native { method := ⟨0, 0⟩, args := #[] }]
def about1 : State := aboutOver below0
def p0 : Program := .bare "" "" ""
def e0 : Env := launch0.env 0 0 0
theorem w_frames : about1.frames = Frame.invoking theMethod args0 :: below0 := rfl
set_option maxRecDepth 65536 in
theorem w_args : argsFit about1.vm theMethod args0 = true := by decide +kernel
set_option maxRecDepth 65536 in
theorem w_heap : heapFits about1 = true := by decide +kernel
set_option maxRecDepth 65536 in
theorem w_runnable : about1.curStatus? = some .runnable := by decide +kernel
set_option maxRecDepth 65536 in
theorem w_alone : about1.alone = true := by decide +kernel
set_option maxRecDepth 65536 in
theorem w_named : about1.methodNamed? x = some theMethod := by decide +kernel
set_option maxRecDepth 65536 in
theorem w_hears : about1.hears theMethod below0 = true := by decide +kernel
set_option maxRecDepth 65536 in
theorem w_ripe : about1.ripe theMethod args0 below0 = true := by decide +kernel
theorem w_running : about1.status = .running := rfl
set_option maxRecDepth 65536 in
theorem w_room : about1.hasRoom e0.platform room_1 = true :=
  launch0.hasRoom_least _ room_1 (by decide +kernel) (by decide +kernel) (by decide +kernel) (by decide +kernel) (by decide +kernel) (by decide +kernel)
theorem allAtoms_all (ts : List Jvm.Cond) (a : Array Jvm.Value) (st : Jvm.State) : (allAtoms ts).before a st = ts.all (fun c => c.before a st) := by
  induction ts with
  | nil => rfl
  | cons c t ih =>
    show (Jvm.Cond.and c (allAtoms t)).before a st = _
    rw [Jvm.Cond.before_and, ih, List.all_cons]
def words1 : List Jvm.Cond := Jvm.Cond.code x code maxLocals ret :: tables_1
/-- a 'code' word, met by the world's own term for the bytes: nothing is compared byte by byte -/
theorem code_word {y : MethodName} {bytes : ByteArray} {mx : Nat} {rt : Option FieldType} {a : Array Value} {s : State} {m : MethodId} {meth : Method} {c : Code} (h1 : s.methodNamed? y = some m) (h2 : s.vm.method? m = some meth) (h3 : meth.code = some c) (h4 : c.code = bytes)
    (h5 : (c.maxLocals == mx && c.exceptionTable.isEmpty && decide (c.maxStack ≤ mostOperands) && decide (meth.sig.returnType = rt) && !meth.locks && decide (parseMethodDescriptor y.desc = some meth.sig)) = true) : (Jvm.Cond.code y bytes mx rt).before a s = true := by
  simp only [Bool.and_eq_true, beq_iff_eq, Bool.not_eq_true', decide_eq_true_eq] at h5
  obtain ⟨⟨⟨⟨⟨g1, g2⟩, g3⟩, g4⟩, g5⟩, g6⟩ := h5
  simp [Cond.before, Cond.holds, Cond.value, h1, h2, h3, h4, g1, g2, g3, g4, g5, g6]
def isCode : Jvm.Cond → Bool
  | .code _ _ _ _ => true
  | _ => false
theorem all_split {L : List Jvm.Cond} {P : Jvm.Cond → Bool} (h1 : L.all (fun c => isCode c || P c) = true) (h2 : ∀ c ∈ L.filter isCode, P c = true) : L.all P = true := by
  refine List.all_eq_true.mpr fun c hc => ?_
  have h := List.all_eq_true.mp h1 c hc
  rcases Bool.eq_false_or_eq_true (isCode c) with hi | hi
  · exact h2 c (List.mem_filter.mpr ⟨hc, hi⟩)
  · simpa [hi] using h
set_option maxRecDepth 65536 in
theorem w_c0 : (Jvm.Cond.code x code maxLocals ret).before args0 about1 = true := code_word (m := ⟨1, 2⟩) (meth := k1m2) (c := k1c2) (by decide +kernel) rfl rfl rfl (by decide +kernel)
set_option maxRecDepth 65536 in
theorem w_c1 : (Jvm.Cond.code ({ cls := "com/example/pubframe/pubframe/message/BuiltInType", name := "forId", desc := "(I)Lcom/example/pubframe/pubframe/message/BuiltInType;" } : Jvm.MethodName) prog_26_method_4_code (1 : Nat) (Option.some (Jvm.ClassFile.FieldType.object "com/example/pubframe/pubframe/message/BuiltInType"))).before args0 about1 = true := code_word (m := ⟨6, 0⟩) (meth := k6m0) (c := k6c0) (by decide +kernel) rfl rfl rfl (by decide +kernel)
set_option maxRecDepth 65536 in
theorem w_c2 : (Jvm.Cond.code ({ cls := "com/example/pubframe/pubframe/message/BuiltInTypeForIdPinLaw", name := "expected", desc := "(I)Lcom/example/pubframe/pubframe/message/BuiltInType;" } : Jvm.MethodName) method_2_code (1 : Nat) (Option.some (Jvm.ClassFile.FieldType.object "com/example/pubframe/pubframe/message/BuiltInType"))).before args0 about1 = true := code_word (m := ⟨1, 1⟩) (meth := k1m1) (c := k1c1) (by decide +kernel) rfl rfl rfl (by decide +kernel)
def codes1 : List Jvm.Cond := [Jvm.Cond.code x code maxLocals ret, Jvm.Cond.code ({ cls := "com/example/pubframe/pubframe/message/BuiltInType", name := "forId", desc := "(I)Lcom/example/pubframe/pubframe/message/BuiltInType;" } : Jvm.MethodName) prog_26_method_4_code (1 : Nat) (Option.some (Jvm.ClassFile.FieldType.object "com/example/pubframe/pubframe/message/BuiltInType")), Jvm.Cond.code ({ cls := "com/example/pubframe/pubframe/message/BuiltInTypeForIdPinLaw", name := "expected", desc := "(I)Lcom/example/pubframe/pubframe/message/BuiltInType;" } : Jvm.MethodName) method_2_code (1 : Nat) (Option.some (Jvm.ClassFile.FieldType.object "com/example/pubframe/pubframe/message/BuiltInType"))]
set_option maxRecDepth 65536 in
theorem codes_eq : words1.filter isCode = codes1 := rfl
theorem w_codes : ∀ c ∈ words1.filter isCode, c.before args0 about1 = true := by
  rw [codes_eq]
  intro c hc
  simp only [codes1, List.mem_cons, List.not_mem_nil, or_false] at hc
  rcases hc with rfl | rfl | rfl
  · exact w_c0
  · exact w_c1
  · exact w_c2
set_option maxRecDepth 65536 in
theorem w_t1 : (words1.take 24).all (fun c => isCode c || c.before args0 about1) = true := by decide +kernel
set_option maxRecDepth 65536 in
theorem w_t2 : (words1.drop 24).all (fun c => isCode c || c.before args0 about1) = true := by decide +kernel
theorem w_tables : (allAtoms (Jvm.Cond.code x code maxLocals ret :: tables_1)).before args0 about1 = true := by
  rw [allAtoms_all]
  show words1.all (fun c => c.before args0 about1) = true
  refine all_split ?_ w_codes
  rw [← List.take_append_drop 24 words1, List.all_append, w_t1, w_t2]
  rfl
set_option maxRecDepth 65536 in
theorem w_case : (Jvm.Cond.and given_1 narrow_1).before args0 about1 = true := by decide +kernel
theorem w_applies : (headSpec (Jvm.Cond.code x code maxLocals ret :: tables_1) room_1).applies x e0.platform about1 = true :=
  (Spec.applies_iff w_frames).mpr ⟨w_running, w_runnable, w_alone, w_named, w_hears, w_ripe, w_room, w_tables⟩
theorem atStart : AtStart classFile x code maxLocals ret World_1 tables_1 room_1 Calls_1 rest_1 Pre_1 launch0 p0 e0 about1 theMethod args0 below0 :=
  ⟨lists_1, trivial, launch0.admits_env _ _ _, launch0.least_env, fairChoices_fair.cas, fairChoices_fair.clock, w_frames, w_args, w_heap, w_applies, trivial, trivial, w_case⟩
end start1
theorem witness_1 : WitnessClaimed_1 := ⟨start1.p0, start1.e0, start1.about1, start1.theMethod, start1.args0, start1.below0, start1.atStart⟩
end Jvm.Pilot.@@N@@
