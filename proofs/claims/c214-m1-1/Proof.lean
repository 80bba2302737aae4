import JvmDerived
import JvmDerived.Pilot.@@N@@Statement
import JvmDerived.Pilot.@@N@@Code
set_option linter.unusedVariables false
set_option linter.unusedSimpArgs false
namespace Jvm.EKit
open Sem ClassFile Op Lib Jvm.Stand Jvm.Free Jvm.LawKit Jvm.RoadKit
/-- from the frame F at T the body comes to a return that answers Q -/
def Ends (p : Program) (l : Launch) (e : Env) (R : Room) (s : State) (m : MethodId) (args : Array Value) (below : List Frame) (meth : Method) (c : Code) (C S : Nat) (Q : Option Value → Heap → List Loc → Prop) (T : State) (F : JFrame) : Prop :=
  ∃ (T' : State) (locs : List Loc) (cells slots : Nat) (v : Option Value), Stand p l e R s m args below meth c T' locs cells slots ∧ Q v T'.heap locs ∧ cells ≤ C ∧ slots ≤ S ∧ (meth.sig.returnType = none → v = none) ∧
    ∀ fs, (∀ (f : JFrame) (acts : List Action), f.method = m → f.locked = none → f.entered = [] → (doReturn e (T'.setTop f) acts v).1 = T'.setFrames fs) → Steps p.tables e below (T.setTop F) (T'.setFrames fs)
/-- the contract of a body -/
def Pays (l : Launch) (Z : State) (y : MethodName) (bytes : ByteArray) (maxL : Nat) (ret : Option FieldType) (ws : List Jvm.Cond) (rm : Room) (as' : Array Value) (h : Heap) (Q : Option Value → Heap → List Loc → Prop) : Prop :=
  MetFree l y (head1 (Jvm.Cond.code y bytes maxL ret :: ws) rm) (fun a U => a = as' ∧ Z.Warmed39 U.vm ∧ U.heap = h) (fun _ _ _ _ _ => True) (fun _ U o U' => ∃ v L, o = .returned v ∧ Q v U'.heap L ∧ FrameEnd U o U' L rm.cells rm.slots)
/-- it returns V and writes nothing -/
def RetQ (V : Option Value) (h : Heap) : Option Value → Heap → List Loc → Prop := fun v h' L => v = V ∧ h' = h ∧ L = []
section
variable {p : Program} {l : Launch} {e : Env} {R : Room} {s : State} {m : MethodId} {args : Array Value} {below : List Frame} {meth : Method} {c : Code} {T : State} {locs : List Loc} {cells slots : Nat} {C S : Nat} {Q : Option Value → Heap → List Loc → Prop} {pc q : Nat} {Ls : Array Slot} {st rest : List Value}
theorem step {T1 : State} {F F1 : JFrame} (h : ∀ t, Steps p.tables e below (T1.setTop F1) t → Steps p.tables e below (T.setTop F) t) (k : Ends p l e R s m args below meth c C S Q T1 F1) : Ends p l e R s m args below meth c C S Q T F := by
  obtain ⟨T', locs, cells, slots, v, h1, h2, h3, h4, h5, h6⟩ := k
  exact ⟨T', locs, cells, slots, v, h1, h2, h3, h4, h5, fun fs hl => h _ (h6 fs hl)⟩
theorem pays {Z : State} {y : MethodName} {bytes : ByteArray} {maxL : Nat} {ret : Option FieldType} {ws : List Jvm.Cond} {rm : Room} {as' : Array Value} {h : Heap} (hpl : plainFor y = true) {F0 : MethodId → JFrame} (hF : ∀ m, entryFrame m as' maxL = F0 m)
    (k : ∀ (p : Program) (e : Env) (s : State) (m : MethodId) (below : List Frame) (meth : Method) (c : Code) (s₁ : State), p.tables.exec = Jvm.exec → c.code = bytes → c.maxLocals = maxL → Z.Warmed39 s.vm → s.vm.findClass y.cls = some m.cls → meth.name = y.name → meth.sig.returnType = ret → Stand p l e rm s m as' below meth c s₁ [] 0 0 → s₁.heap = h → s.heap = h →
      Ends p l e rm s m as' below meth c rm.cells rm.slots Q s₁ (F0 m)) : Pays l Z y bytes maxL ret ws rm as' h Q := by
  refine MetFree.of_bodySF hpl hisR ?_
  intro p e s m args below meth c s₁ Bd hml0 hP hK
  obtain ⟨rfl, hZ, hh⟩ := hP
  obtain ⟨T', locs, cells, slots, v, X, hQ, h3, h4, h5, h6⟩ := k p e s m below meth c s₁ Bd.exec Bd.bytes hml0 hZ (findClass_of_methodNamed Bd.named) (name_of_methodNamed Bd.named Bd.method).1 Bd.returns (Stand.of_body Bd) (by rw [← hh, Bd.state]; rfl) hh
  obtain ⟨fs, hr, hrun, hended, hW, hsame⟩ := X.leave (v := v) h5
  exact ⟨_, _, castTop (hF m) (h6 fs hr), hrun, hended, v, locs, rfl, hQ, ⟨_, rfl⟩, hW, hsame.mono h3 h4⟩
theorem iloadN (X : Stand p l e R s m args below meth c T locs cells slots) (hx : p.tables.exec = Jvm.exec) {k0 : Fin 4} {v : Int32} (hl : Ls[k0.val]? = some (.val (.int v))) (hd : decode c.code pc = .ok (.iload_n k0, 1)) (hq : pc + 1 = q) (k : Ends p l e R s m args below meth c C S Q T (mkF m q Ls (.int v :: st))) : Ends p l e R s m args below meth c C S Q T (mkF m pc Ls (st)) := step (fun _ h => by subst hq; exact XS.iloadN X.here hx rfl hd hl h) k
theorem iload (X : Stand p l e R s m args below meth c T locs cells slots) (hx : p.tables.exec = Jvm.exec) {k0 : Nat} {v : Int32} (hl : Ls[k0]? = some (.val (.int v))) (hd : decode c.code pc = .ok (.iload k0, 2)) (hq : pc + 2 = q) (k : Ends p l e R s m args below meth c C S Q T (mkF m q Ls (.int v :: st))) : Ends p l e R s m args below meth c C S Q T (mkF m pc Ls (st)) := step (fun _ h => by subst hq; exact XS.iload X.here hx rfl hd hl h) k
theorem istoreN (X : Stand p l e R s m args below meth c T locs cells slots) (hx : p.tables.exec = Jvm.exec) {k0 : Fin 4} {v : Int32} {l' : Array Slot} (hl : storeLocals Ls k0.val (.int v) = some l') (hd : decode c.code pc = .ok (.istore_n k0, 1)) (hq : pc + 1 = q) (k : Ends p l e R s m args below meth c C S Q T (mkF m q l' (st))) : Ends p l e R s m args below meth c C S Q T (mkF m pc Ls (.int v :: st)) := step (fun _ h => by subst hq; exact XS.istoreN X.here hx rfl hd rfl hl h) k
theorem istore (X : Stand p l e R s m args below meth c T locs cells slots) (hx : p.tables.exec = Jvm.exec) {k0 : Nat} {v : Int32} {l' : Array Slot} (hl : storeLocals Ls k0 (.int v) = some l') (hd : decode c.code pc = .ok (.istore k0, 2)) (hq : pc + 2 = q) (k : Ends p l e R s m args below meth c C S Q T (mkF m q l' (st))) : Ends p l e R s m args below meth c C S Q T (mkF m pc Ls (.int v :: st)) := step (fun _ h => by subst hq; exact XS.istore X.here hx rfl hd rfl hl h) k
theorem lloadN (X : Stand p l e R s m args below meth c T locs cells slots) (hx : p.tables.exec = Jvm.exec) {k0 : Fin 4} {v : Int64} (hl : Ls[k0.val]? = some (.val (.long v))) (hd : decode c.code pc = .ok (.lload_n k0, 1)) (hq : pc + 1 = q) (k : Ends p l e R s m args below meth c C S Q T (mkF m q Ls (.long v :: st))) : Ends p l e R s m args below meth c C S Q T (mkF m pc Ls (st)) := step (fun _ h => by subst hq; exact XS.lloadN X.here hx rfl hd hl h) k
theorem lload (X : Stand p l e R s m args below meth c T locs cells slots) (hx : p.tables.exec = Jvm.exec) {k0 : Nat} {v : Int64} (hl : Ls[k0]? = some (.val (.long v))) (hd : decode c.code pc = .ok (.lload k0, 2)) (hq : pc + 2 = q) (k : Ends p l e R s m args below meth c C S Q T (mkF m q Ls (.long v :: st))) : Ends p l e R s m args below meth c C S Q T (mkF m pc Ls (st)) := step (fun _ h => by subst hq; exact XS.lload X.here hx rfl hd hl h) k
theorem lstoreN (X : Stand p l e R s m args below meth c T locs cells slots) (hx : p.tables.exec = Jvm.exec) {k0 : Fin 4} {v : Int64} {l' : Array Slot} (hl : storeLocals Ls k0.val (.long v) = some l') (hd : decode c.code pc = .ok (.lstore_n k0, 1)) (hq : pc + 1 = q) (k : Ends p l e R s m args below meth c C S Q T (mkF m q l' (st))) : Ends p l e R s m args below meth c C S Q T (mkF m pc Ls (.long v :: st)) := step (fun _ h => by subst hq; exact XS.lstoreN X.here hx rfl hd rfl hl h) k
theorem lstore (X : Stand p l e R s m args below meth c T locs cells slots) (hx : p.tables.exec = Jvm.exec) {k0 : Nat} {v : Int64} {l' : Array Slot} (hl : storeLocals Ls k0 (.long v) = some l') (hd : decode c.code pc = .ok (.lstore k0, 2)) (hq : pc + 2 = q) (k : Ends p l e R s m args below meth c C S Q T (mkF m q l' (st))) : Ends p l e R s m args below meth c C S Q T (mkF m pc Ls (.long v :: st)) := step (fun _ h => by subst hq; exact XS.lstore X.here hx rfl hd rfl hl h) k
theorem aloadN (X : Stand p l e R s m args below meth c T locs cells slots) (hx : p.tables.exec = Jvm.exec) {k0 : Fin 4} {v : Value} (hl : Ls[k0.val]? = some (.val v)) (hv : v.isRef = true) (hd : decode c.code pc = .ok (.aload_n k0, 1)) (hq : pc + 1 = q) (k : Ends p l e R s m args below meth c C S Q T (mkF m q Ls (v :: st))) : Ends p l e R s m args below meth c C S Q T (mkF m pc Ls (st)) := step (fun _ h => by subst hq; exact XS.aloadN X.here hx rfl hd hl hv h) k
theorem aload (X : Stand p l e R s m args below meth c T locs cells slots) (hx : p.tables.exec = Jvm.exec) {k0 : Nat} {v : Value} (hl : Ls[k0]? = some (.val v)) (hv : v.isRef = true) (hd : decode c.code pc = .ok (.aload k0, 2)) (hq : pc + 2 = q) (k : Ends p l e R s m args below meth c C S Q T (mkF m q Ls (v :: st))) : Ends p l e R s m args below meth c C S Q T (mkF m pc Ls (st)) := step (fun _ h => by subst hq; exact XS.aload X.here hx rfl hd hl hv h) k
theorem astoreN (X : Stand p l e R s m args below meth c T locs cells slots) (hx : p.tables.exec = Jvm.exec) {k0 : Fin 4} {v : Value} {l' : Array Slot} (hv : v.isRef = true) (hl : storeLocals Ls k0.val v = some l') (hd : decode c.code pc = .ok (.astore_n k0, 1)) (hq : pc + 1 = q) (k : Ends p l e R s m args below meth c C S Q T (mkF m q l' (st))) : Ends p l e R s m args below meth c C S Q T (mkF m pc Ls (v :: st)) := step (fun _ h => by subst hq; exact XS.astoreN X.here hx rfl hd rfl hv hl h) k
theorem astore (X : Stand p l e R s m args below meth c T locs cells slots) (hx : p.tables.exec = Jvm.exec) {k0 : Nat} {v : Value} {l' : Array Slot} (hv : v.isRef = true) (hl : storeLocals Ls k0 v = some l') (hd : decode c.code pc = .ok (.astore k0, 2)) (hq : pc + 2 = q) (k : Ends p l e R s m args below meth c C S Q T (mkF m q l' (st))) : Ends p l e R s m args below meth c C S Q T (mkF m pc Ls (v :: st)) := step (fun _ h => by subst hq; exact XS.astore X.here hx rfl hd rfl hv hl h) k
theorem iconst (X : Stand p l e R s m args below meth c T locs cells slots) (hx : p.tables.exec = Jvm.exec) {i : Int} {v : Int32} (hv : Int32.ofInt i = v) (hd : decode c.code pc = .ok (.iconst i, 1)) (hq : pc + 1 = q) (k : Ends p l e R s m args below meth c C S Q T (mkF m q Ls (.int v :: st))) : Ends p l e R s m args below meth c C S Q T (mkF m pc Ls (st)) := step (fun _ h => by subst hq; exact XS.iconst X.here hx rfl hd (by rw [hv]; exact h)) k
theorem bipush (X : Stand p l e R s m args below meth c T locs cells slots) (hx : p.tables.exec = Jvm.exec) {i : Int} {v : Int32} (hv : (Int8.ofInt i).toInt32 = v) (hd : decode c.code pc = .ok (.bipush i, 2)) (hq : pc + 2 = q) (k : Ends p l e R s m args below meth c C S Q T (mkF m q Ls (.int v :: st))) : Ends p l e R s m args below meth c C S Q T (mkF m pc Ls (st)) := step (fun _ h => by subst hq; exact XS.bipush X.here hx rfl hd (by rw [hv]; exact h)) k
theorem sipush (X : Stand p l e R s m args below meth c T locs cells slots) (hx : p.tables.exec = Jvm.exec) {i : Int} {v : Int32} (hv : (Int16.ofInt i).toInt32 = v) (hd : decode c.code pc = .ok (.sipush i, 3)) (hq : pc + 3 = q) (k : Ends p l e R s m args below meth c C S Q T (mkF m q Ls (.int v :: st))) : Ends p l e R s m args below meth c C S Q T (mkF m pc Ls (st)) := step (fun _ h => by subst hq; exact XS.sipush X.here hx rfl hd (by rw [hv]; exact h)) k
theorem lconst (X : Stand p l e R s m args below meth c T locs cells slots) (hx : p.tables.exec = Jvm.exec) {i : Fin 2} {v : Int64} (hv : Int64.ofNat i = v) (hd : decode c.code pc = .ok (.lconst i, 1)) (hq : pc + 1 = q) (k : Ends p l e R s m args below meth c C S Q T (mkF m q Ls (.long v :: st))) : Ends p l e R s m args below meth c C S Q T (mkF m pc Ls (st)) := step (fun _ h => by subst hq; exact XS.lconst X.here hx rfl hd (by rw [hv]; exact h)) k
theorem aconstNull (X : Stand p l e R s m args below meth c T locs cells slots) (hx : p.tables.exec = Jvm.exec)  (hd : decode c.code pc = .ok (.aconst_null, 1)) (hq : pc + 1 = q) (k : Ends p l e R s m args below meth c C S Q T (mkF m q Ls (.null :: st))) : Ends p l e R s m args below meth c C S Q T (mkF m pc Ls (st)) := step (fun _ h => by subst hq; exact XS.aconstNull X.here hx rfl hd h) k
theorem iadd (X : Stand p l e R s m args below meth c T locs cells slots) (hx : p.tables.exec = Jvm.exec) {x y : Int32} (hd : decode c.code pc = .ok (.iadd, 1)) (hq : pc + 1 = q) (k : Ends p l e R s m args below meth c C S Q T (mkF m q Ls (.int (x + y) :: st))) : Ends p l e R s m args below meth c C S Q T (mkF m pc Ls (.int y :: .int x :: st)) := step (fun _ h => by subst hq; exact XS.iadd X.here hx rfl hd rfl h) k
theorem isub (X : Stand p l e R s m args below meth c T locs cells slots) (hx : p.tables.exec = Jvm.exec) {x y : Int32} (hd : decode c.code pc = .ok (.isub, 1)) (hq : pc + 1 = q) (k : Ends p l e R s m args below meth c C S Q T (mkF m q Ls (.int (x - y) :: st))) : Ends p l e R s m args below meth c C S Q T (mkF m pc Ls (.int y :: .int x :: st)) := step (fun _ h => by subst hq; exact XS.isub X.here hx rfl hd rfl h) k
theorem imul (X : Stand p l e R s m args below meth c T locs cells slots) (hx : p.tables.exec = Jvm.exec) {x y : Int32} (hd : decode c.code pc = .ok (.imul, 1)) (hq : pc + 1 = q) (k : Ends p l e R s m args below meth c C S Q T (mkF m q Ls (.int (x * y) :: st))) : Ends p l e R s m args below meth c C S Q T (mkF m pc Ls (.int y :: .int x :: st)) := step (fun _ h => by subst hq; exact XS.imul X.here hx rfl hd rfl h) k
theorem iand (X : Stand p l e R s m args below meth c T locs cells slots) (hx : p.tables.exec = Jvm.exec) {x y : Int32} (hd : decode c.code pc = .ok (.iand, 1)) (hq : pc + 1 = q) (k : Ends p l e R s m args below meth c C S Q T (mkF m q Ls (.int (x &&& y) :: st))) : Ends p l e R s m args below meth c C S Q T (mkF m pc Ls (.int y :: .int x :: st)) := step (fun _ h => by subst hq; exact XS.iand X.here hx rfl hd rfl h) k
theorem ior (X : Stand p l e R s m args below meth c T locs cells slots) (hx : p.tables.exec = Jvm.exec) {x y : Int32} (hd : decode c.code pc = .ok (.ior, 1)) (hq : pc + 1 = q) (k : Ends p l e R s m args below meth c C S Q T (mkF m q Ls (.int (x ||| y) :: st))) : Ends p l e R s m args below meth c C S Q T (mkF m pc Ls (.int y :: .int x :: st)) := step (fun _ h => by subst hq; exact XS.ior X.here hx rfl hd rfl h) k
theorem ixor (X : Stand p l e R s m args below meth c T locs cells slots) (hx : p.tables.exec = Jvm.exec) {x y : Int32} (hd : decode c.code pc = .ok (.ixor, 1)) (hq : pc + 1 = q) (k : Ends p l e R s m args below meth c C S Q T (mkF m q Ls (.int (x ^^^ y) :: st))) : Ends p l e R s m args below meth c C S Q T (mkF m pc Ls (.int y :: .int x :: st)) := step (fun _ h => by subst hq; exact XS.ixor X.here hx rfl hd rfl h) k
theorem ineg (X : Stand p l e R s m args below meth c T locs cells slots) (hx : p.tables.exec = Jvm.exec) {x : Int32} (hd : decode c.code pc = .ok (.ineg, 1)) (hq : pc + 1 = q) (k : Ends p l e R s m args below meth c C S Q T (mkF m q Ls (.int (-x) :: st))) : Ends p l e R s m args below meth c C S Q T (mkF m pc Ls (.int x :: st)) := step (fun _ h => by subst hq; exact XS.ineg X.here hx rfl hd rfl h) k
theorem idiv (X : Stand p l e R s m args below meth c T locs cells slots) (hx : p.tables.exec = Jvm.exec) {x y : Int32} (hy : y ≠ 0) (hd : decode c.code pc = .ok (.idiv, 1)) (hq : pc + 1 = q) (k : Ends p l e R s m args below meth c C S Q T (mkF m q Ls (.int (x / y) :: st))) : Ends p l e R s m args below meth c C S Q T (mkF m pc Ls (.int y :: .int x :: st)) := step (fun _ h => by subst hq; exact XS.idiv X.here hx rfl hd rfl hy h) k
theorem ladd (X : Stand p l e R s m args below meth c T locs cells slots) (hx : p.tables.exec = Jvm.exec) {x y : Int64} (hd : decode c.code pc = .ok (.ladd, 1)) (hq : pc + 1 = q) (k : Ends p l e R s m args below meth c C S Q T (mkF m q Ls (.long (x + y) :: st))) : Ends p l e R s m args below meth c C S Q T (mkF m pc Ls (.long y :: .long x :: st)) := step (fun _ h => by subst hq; exact XS.ladd X.here hx rfl hd rfl h) k
theorem lsub (X : Stand p l e R s m args below meth c T locs cells slots) (hx : p.tables.exec = Jvm.exec) {x y : Int64} (hd : decode c.code pc = .ok (.lsub, 1)) (hq : pc + 1 = q) (k : Ends p l e R s m args below meth c C S Q T (mkF m q Ls (.long (x - y) :: st))) : Ends p l e R s m args below meth c C S Q T (mkF m pc Ls (.long y :: .long x :: st)) := step (fun _ h => by subst hq; exact XS.lsub X.here hx rfl hd rfl h) k
theorem lmul (X : Stand p l e R s m args below meth c T locs cells slots) (hx : p.tables.exec = Jvm.exec) {x y : Int64} (hd : decode c.code pc = .ok (.lmul, 1)) (hq : pc + 1 = q) (k : Ends p l e R s m args below meth c C S Q T (mkF m q Ls (.long (x * y) :: st))) : Ends p l e R s m args below meth c C S Q T (mkF m pc Ls (.long y :: .long x :: st)) := step (fun _ h => by subst hq; exact XS.lmul X.here hx rfl hd rfl h) k
theorem land (X : Stand p l e R s m args below meth c T locs cells slots) (hx : p.tables.exec = Jvm.exec) {x y : Int64} (hd : decode c.code pc = .ok (.land, 1)) (hq : pc + 1 = q) (k : Ends p l e R s m args below meth c C S Q T (mkF m q Ls (.long (x &&& y) :: st))) : Ends p l e R s m args below meth c C S Q T (mkF m pc Ls (.long y :: .long x :: st)) := step (fun _ h => by subst hq; exact XS.land X.here hx rfl hd rfl h) k
theorem lor (X : Stand p l e R s m args below meth c T locs cells slots) (hx : p.tables.exec = Jvm.exec) {x y : Int64} (hd : decode c.code pc = .ok (.lor, 1)) (hq : pc + 1 = q) (k : Ends p l e R s m args below meth c C S Q T (mkF m q Ls (.long (x ||| y) :: st))) : Ends p l e R s m args below meth c C S Q T (mkF m pc Ls (.long y :: .long x :: st)) := step (fun _ h => by subst hq; exact XS.lor X.here hx rfl hd rfl h) k
theorem lxor (X : Stand p l e R s m args below meth c T locs cells slots) (hx : p.tables.exec = Jvm.exec) {x y : Int64} (hd : decode c.code pc = .ok (.lxor, 1)) (hq : pc + 1 = q) (k : Ends p l e R s m args below meth c C S Q T (mkF m q Ls (.long (x ^^^ y) :: st))) : Ends p l e R s m args below meth c C S Q T (mkF m pc Ls (.long y :: .long x :: st)) := step (fun _ h => by subst hq; exact XS.lxor X.here hx rfl hd rfl h) k
theorem lneg (X : Stand p l e R s m args below meth c T locs cells slots) (hx : p.tables.exec = Jvm.exec) {x : Int64} (hd : decode c.code pc = .ok (.lneg, 1)) (hq : pc + 1 = q) (k : Ends p l e R s m args below meth c C S Q T (mkF m q Ls (.long (-x) :: st))) : Ends p l e R s m args below meth c C S Q T (mkF m pc Ls (.long x :: st)) := step (fun _ h => by subst hq; exact XS.lneg X.here hx rfl hd rfl h) k
theorem ldiv (X : Stand p l e R s m args below meth c T locs cells slots) (hx : p.tables.exec = Jvm.exec) {x y : Int64} (hy : y ≠ 0) (hd : decode c.code pc = .ok (.ldiv, 1)) (hq : pc + 1 = q) (k : Ends p l e R s m args below meth c C S Q T (mkF m q Ls (.long (x / y) :: st))) : Ends p l e R s m args below meth c C S Q T (mkF m pc Ls (.long y :: .long x :: st)) := step (fun _ h => by subst hq; exact XS.ldiv X.here hx rfl hd rfl hy h) k
theorem irem (X : Stand p l e R s m args below meth c T locs cells slots) (hx : p.tables.exec = Jvm.exec) {x y : Int32} (hy : y ≠ 0) (hd : decode c.code pc = .ok (.irem, 1)) (hq : pc + 1 = q) (k : Ends p l e R s m args below meth c C S Q T (mkF m q Ls (.int (x % y) :: st))) : Ends p l e R s m args below meth c C S Q T (mkF m pc Ls (.int y :: .int x :: st)) := step (fun _ h => by subst hq; exact iremM X hx rfl hd rfl hy h) k
theorem lrem (X : Stand p l e R s m args below meth c T locs cells slots) (hx : p.tables.exec = Jvm.exec) {x y : Int64} (hy : y ≠ 0) (hd : decode c.code pc = .ok (.lrem, 1)) (hq : pc + 1 = q) (k : Ends p l e R s m args below meth c C S Q T (mkF m q Ls (.long (x % y) :: st))) : Ends p l e R s m args below meth c C S Q T (mkF m pc Ls (.long y :: .long x :: st)) := step (fun _ h => by subst hq; exact XS.lrem X.here hx rfl hd rfl hy (by rw [lrem_mod]; exact h)) k
theorem ishl (X : Stand p l e R s m args below meth c T locs cells slots) (hx : p.tables.exec = Jvm.exec) {x : Int32} {y : Int32} (hd : decode c.code pc = .ok (.ishl, 1)) (hq : pc + 1 = q) (k : Ends p l e R s m args below meth c C S Q T (mkF m q Ls (.int (x <<< (y &&& 31)) :: st))) : Ends p l e R s m args below meth c C S Q T (mkF m pc Ls (.int y :: .int x :: st)) := step (fun _ h => by subst hq; exact XS.ishl X.here hx rfl hd rfl h) k
theorem ishr (X : Stand p l e R s m args below meth c T locs cells slots) (hx : p.tables.exec = Jvm.exec) {x : Int32} {y : Int32} (hd : decode c.code pc = .ok (.ishr, 1)) (hq : pc + 1 = q) (k : Ends p l e R s m args below meth c C S Q T (mkF m q Ls (.int (x >>> (y &&& 31)) :: st))) : Ends p l e R s m args below meth c C S Q T (mkF m pc Ls (.int y :: .int x :: st)) := step (fun _ h => by subst hq; exact XS.ishr X.here hx rfl hd rfl h) k
theorem iushr (X : Stand p l e R s m args below meth c T locs cells slots) (hx : p.tables.exec = Jvm.exec) {x : Int32} {y : Int32} (hd : decode c.code pc = .ok (.iushr, 1)) (hq : pc + 1 = q) (k : Ends p l e R s m args below meth c C S Q T (mkF m q Ls (.int ((x.toUInt32 >>> (y &&& 31).toUInt32).toInt32) :: st))) : Ends p l e R s m args below meth c C S Q T (mkF m pc Ls (.int y :: .int x :: st)) := step (fun _ h => by subst hq; exact XS.iushr X.here hx rfl hd rfl h) k
theorem lshl (X : Stand p l e R s m args below meth c T locs cells slots) (hx : p.tables.exec = Jvm.exec) {x : Int64} {y : Int32} (hd : decode c.code pc = .ok (.lshl, 1)) (hq : pc + 1 = q) (k : Ends p l e R s m args below meth c C S Q T (mkF m q Ls (.long (x <<< (y &&& 0x3f).toInt64) :: st))) : Ends p l e R s m args below meth c C S Q T (mkF m pc Ls (.int y :: .long x :: st)) := step (fun _ h => by subst hq; exact XS.lshl X.here hx rfl hd rfl h) k
theorem lshr (X : Stand p l e R s m args below meth c T locs cells slots) (hx : p.tables.exec = Jvm.exec) {x : Int64} {y : Int32} (hd : decode c.code pc = .ok (.lshr, 1)) (hq : pc + 1 = q) (k : Ends p l e R s m args below meth c C S Q T (mkF m q Ls (.long (x >>> (y &&& 0x3f).toInt64) :: st))) : Ends p l e R s m args below meth c C S Q T (mkF m pc Ls (.int y :: .long x :: st)) := step (fun _ h => by subst hq; exact XS.lshr X.here hx rfl hd rfl h) k
theorem lushr (X : Stand p l e R s m args below meth c T locs cells slots) (hx : p.tables.exec = Jvm.exec) {x : Int64} {y : Int32} (hd : decode c.code pc = .ok (.lushr, 1)) (hq : pc + 1 = q) (k : Ends p l e R s m args below meth c C S Q T (mkF m q Ls (.long ((x.toUInt64 >>> (y &&& 0x3f).toInt64.toUInt64).toInt64) :: st))) : Ends p l e R s m args below meth c C S Q T (mkF m pc Ls (.int y :: .long x :: st)) := step (fun _ h => by subst hq; exact XS.lushr X.here hx rfl hd rfl h) k
theorem i2l (X : Stand p l e R s m args below meth c T locs cells slots) (hx : p.tables.exec = Jvm.exec) {x : Int32} (hd : decode c.code pc = .ok (.i2l, 1)) (hq : pc + 1 = q) (k : Ends p l e R s m args below meth c C S Q T (mkF m q Ls (.long (x.toInt64) :: st))) : Ends p l e R s m args below meth c C S Q T (mkF m pc Ls (.int x :: st)) := step (fun _ h => by subst hq; exact XS.i2l X.here hx rfl hd rfl h) k
theorem l2i (X : Stand p l e R s m args below meth c T locs cells slots) (hx : p.tables.exec = Jvm.exec) {x : Int64} (hd : decode c.code pc = .ok (.l2i, 1)) (hq : pc + 1 = q) (k : Ends p l e R s m args below meth c C S Q T (mkF m q Ls (.int (x.toInt32) :: st))) : Ends p l e R s m args below meth c C S Q T (mkF m pc Ls (.long x :: st)) := step (fun _ h => by subst hq; exact XS.l2i X.here hx rfl hd rfl h) k
theorem i2b (X : Stand p l e R s m args below meth c T locs cells slots) (hx : p.tables.exec = Jvm.exec) {x : Int32} (hd : decode c.code pc = .ok (.i2b, 1)) (hq : pc + 1 = q) (k : Ends p l e R s m args below meth c C S Q T (mkF m q Ls (.int (x.toInt8.toInt32) :: st))) : Ends p l e R s m args below meth c C S Q T (mkF m pc Ls (.int x :: st)) := step (fun _ h => by subst hq; exact XS.i2b X.here hx rfl hd rfl h) k
theorem i2s (X : Stand p l e R s m args below meth c T locs cells slots) (hx : p.tables.exec = Jvm.exec) {x : Int32} (hd : decode c.code pc = .ok (.i2s, 1)) (hq : pc + 1 = q) (k : Ends p l e R s m args below meth c C S Q T (mkF m q Ls (.int (x.toInt16.toInt32) :: st))) : Ends p l e R s m args below meth c C S Q T (mkF m pc Ls (.int x :: st)) := step (fun _ h => by subst hq; exact XS.i2s X.here hx rfl hd rfl h) k
theorem i2c (X : Stand p l e R s m args below meth c T locs cells slots) (hx : p.tables.exec = Jvm.exec) {x : Int32} (hd : decode c.code pc = .ok (.i2c, 1)) (hq : pc + 1 = q) (k : Ends p l e R s m args below meth c C S Q T (mkF m q Ls (.int (x.toUInt32.toUInt16.toUInt32.toInt32) :: st))) : Ends p l e R s m args below meth c C S Q T (mkF m pc Ls (.int x :: st)) := step (fun _ h => by subst hq; exact XS.i2c X.here hx rfl hd rfl h) k
theorem lcmp (X : Stand p l e R s m args below meth c T locs cells slots) (hx : p.tables.exec = Jvm.exec) {x y : Int64} (hd : decode c.code pc = .ok (.lcmp, 1)) (hq : pc + 1 = q) (k : Ends p l e R s m args below meth c C S Q T (mkF m q Ls (.int (lcmpW x y) :: st))) : Ends p l e R s m args below meth c C S Q T (mkF m pc Ls (.long y :: .long x :: st)) := step (fun _ h => by subst hq; exact XS.lcmp X.here hx rfl hd rfl h) k
theorem dup (X : Stand p l e R s m args below meth c T locs cells slots) (hx : p.tables.exec = Jvm.exec) {v : Value} (hc : v.category = 1) (hd : decode c.code pc = .ok (.dup, 1)) (hq : pc + 1 = q) (k : Ends p l e R s m args below meth c C S Q T (mkF m q Ls (v :: v :: st))) : Ends p l e R s m args below meth c C S Q T (mkF m pc Ls (v :: st)) := step (fun _ h => by subst hq; exact XS.dup X.here hx rfl hd rfl hc h) k
theorem pop (X : Stand p l e R s m args below meth c T locs cells slots) (hx : p.tables.exec = Jvm.exec) {v : Value} (hc : v.category = 1) (hd : decode c.code pc = .ok (.pop, 1)) (hq : pc + 1 = q) (k : Ends p l e R s m args below meth c C S Q T (mkF m q Ls (st))) : Ends p l e R s m args below meth c C S Q T (mkF m pc Ls (v :: st)) := step (fun _ h => by subst hq; exact XS.pop X.here hx rfl hd rfl hc h) k
theorem iinc (X : Stand p l e R s m args below meth c T locs cells slots) (hx : p.tables.exec = Jvm.exec) {k0 : Nat} {cst : Int} {x v : Int32} {l' : Array Slot} (hl : Ls[k0]? = some (.val (.int x))) (hv : x + Int32.ofInt cst = v) (hl' : storeLocals Ls k0 (.int v) = some l') (hd : decode c.code pc = .ok (.iinc k0 cst, 3)) (hq : pc + 3 = q) (k : Ends p l e R s m args below meth c C S Q T (mkF m q l' (st))) : Ends p l e R s m args below meth c C S Q T (mkF m pc Ls (st)) := step (fun _ h => by subst hq; exact XS.iinc X.here hx rfl hd hl (by rw [hv]; exact hl') h) k
theorem goto (X : Stand p l e R s m args below meth c T locs cells slots) (hx : p.tables.exec = Jvm.exec) {o : Int}  (hd : decode c.code pc = .ok (.goto o, 3)) (ho : 0 ≤ (pc : Int) + o) (hq : ((pc : Int) + o).toNat = q) (k : Ends p l e R s m args below meth c C S Q T (mkF m q Ls (st))) : Ends p l e R s m args below meth c C S Q T (mkF m pc Ls (st)) := step (fun _ h => XS.goto X.here hx rfl rfl hd ho hq h) k
theorem ifYes (X : Stand p l e R s m args below meth c T locs cells slots) (hx : p.tables.exec = Jvm.exec) {o : Int} {cd : ClassFile.Cond} {x : Int32} (hc : ifCond.holds cd x = true) (hd : decode c.code pc = .ok (.ifCond cd o, 3)) (ho : 0 ≤ (pc : Int) + o) (hq : ((pc : Int) + o).toNat = q) (k : Ends p l e R s m args below meth c C S Q T (mkF m q Ls (st))) : Ends p l e R s m args below meth c C S Q T (mkF m pc Ls (.int x :: st)) := step (fun _ h => XS.ifYes X.here hx rfl rfl hd rfl hc ho hq h) k
theorem icmpYes (X : Stand p l e R s m args below meth c T locs cells slots) (hx : p.tables.exec = Jvm.exec) {o : Int} {cd : ClassFile.Cond} {x y : Int32} (hc : if_icmp.holds cd x y = true) (hd : decode c.code pc = .ok (.if_icmp cd o, 3)) (ho : 0 ≤ (pc : Int) + o) (hq : ((pc : Int) + o).toNat = q) (k : Ends p l e R s m args below meth c C S Q T (mkF m q Ls (st))) : Ends p l e R s m args below meth c C S Q T (mkF m pc Ls (.int y :: .int x :: st)) := step (fun _ h => XS.icmpYes X.here hx rfl rfl hd rfl hc ho hq h) k
theorem ifnullYes (X : Stand p l e R s m args below meth c T locs cells slots) (hx : p.tables.exec = Jvm.exec) {o : Int}  (hd : decode c.code pc = .ok (.ifnull o, 3)) (ho : 0 ≤ (pc : Int) + o) (hq : ((pc : Int) + o).toNat = q) (k : Ends p l e R s m args below meth c C S Q T (mkF m q Ls (st))) : Ends p l e R s m args below meth c C S Q T (mkF m pc Ls (.null :: st)) := step (fun _ h => XS.ifnullYes X.here hx rfl rfl hd rfl ho hq h) k
theorem ifnonnullYes (X : Stand p l e R s m args below meth c T locs cells slots) (hx : p.tables.exec = Jvm.exec) {o : Int} {b : Addr} (hd : decode c.code pc = .ok (.ifnonnull o, 3)) (ho : 0 ≤ (pc : Int) + o) (hq : ((pc : Int) + o).toNat = q) (k : Ends p l e R s m args below meth c C S Q T (mkF m q Ls (st))) : Ends p l e R s m args below meth c C S Q T (mkF m pc Ls (.ref b :: st)) := step (fun _ h => XS.ifnonnullYes X.here hx rfl rfl hd rfl ho hq h) k
theorem ifNo (X : Stand p l e R s m args below meth c T locs cells slots) (hx : p.tables.exec = Jvm.exec) {o : Int} {cd : ClassFile.Cond} {x : Int32} (hc : ifCond.holds cd x = false) (hd : decode c.code pc = .ok (.ifCond cd o, 3)) (hq : pc + 3 = q) (k : Ends p l e R s m args below meth c C S Q T (mkF m q Ls (st))) : Ends p l e R s m args below meth c C S Q T (mkF m pc Ls (.int x :: st)) := step (fun _ h => by subst hq; exact XS.ifNo X.here hx rfl hd rfl hc h) k
theorem icmpNo (X : Stand p l e R s m args below meth c T locs cells slots) (hx : p.tables.exec = Jvm.exec) {o : Int} {cd : ClassFile.Cond} {x y : Int32} (hc : if_icmp.holds cd x y = false) (hd : decode c.code pc = .ok (.if_icmp cd o, 3)) (hq : pc + 3 = q) (k : Ends p l e R s m args below meth c C S Q T (mkF m q Ls (st))) : Ends p l e R s m args below meth c C S Q T (mkF m pc Ls (.int y :: .int x :: st)) := step (fun _ h => by subst hq; exact XS.icmpNo X.here hx rfl hd rfl hc h) k
theorem ifnullNo (X : Stand p l e R s m args below meth c T locs cells slots) (hx : p.tables.exec = Jvm.exec) {o : Int} {b : Addr} (hd : decode c.code pc = .ok (.ifnull o, 3)) (hq : pc + 3 = q) (k : Ends p l e R s m args below meth c C S Q T (mkF m q Ls (st))) : Ends p l e R s m args below meth c C S Q T (mkF m pc Ls (.ref b :: st)) := step (fun _ h => by subst hq; exact XS.ifnullNo X.here hx rfl hd rfl h) k
theorem ifnonnullNo (X : Stand p l e R s m args below meth c T locs cells slots) (hx : p.tables.exec = Jvm.exec) {o : Int} (hd : decode c.code pc = .ok (.ifnonnull o, 3)) (hq : pc + 3 = q) (k : Ends p l e R s m args below meth c C S Q T (mkF m q Ls (st))) : Ends p l e R s m args below meth c C S Q T (mkF m pc Ls (.null :: st)) := step (fun _ h => by subst hq; exact XS.ifnonnullNo X.here hx rfl hd rfl h) k
theorem acmp (X : Stand p l e R s m args below meth c T locs cells slots) (hx : p.tables.exec = Jvm.exec) {o : Int} {cd : ACond} {x y : Value} (h1 : x.isRef = true) (h2 : y.isRef = true) {same : Bool} (hs : decide (x = y) = same) (hd : decode c.code pc = .ok (.if_acmp cd o, 3)) (ho : 0 ≤ (pc : Int) + o) (hq : q = if acV cd same = true then ((pc : Int) + o).toNat else pc + 3) (k : Ends p l e R s m args below meth c C S Q T (mkF m q Ls st)) : Ends p l e R s m args below meth c C S Q T (mkF m pc Ls (y :: x :: st)) := step (fun _ h => Jvm.RoadKit.acmp X hx rfl h1 h2 rfl hd rfl hs ho hq h) k
theorem dloadN (X : Stand p l e R s m args below meth c T locs cells slots) (hx : p.tables.exec = Jvm.exec) {k0 : Fin 4} {v : UInt64} (hl : Ls[k0.val]? = some (.val (.double v))) (hd : decode c.code pc = .ok (.dload_n k0, 1)) (hq : pc + 1 = q) (k : Ends p l e R s m args below meth c C S Q T (mkF m q Ls (.double v :: st))) : Ends p l e R s m args below meth c C S Q T (mkF m pc Ls (st)) := step (fun _ h => by subst hq; exact XS.dloadN X.here hx rfl hd hl h) k
theorem dload (X : Stand p l e R s m args below meth c T locs cells slots) (hx : p.tables.exec = Jvm.exec) {k0 : Nat} {v : UInt64} (hl : Ls[k0]? = some (.val (.double v))) (hd : decode c.code pc = .ok (.dload k0, 2)) (hq : pc + 2 = q) (k : Ends p l e R s m args below meth c C S Q T (mkF m q Ls (.double v :: st))) : Ends p l e R s m args below meth c C S Q T (mkF m pc Ls (st)) := step (fun _ h => by subst hq; exact XS.dload X.here hx rfl hd hl h) k
theorem dstoreN (X : Stand p l e R s m args below meth c T locs cells slots) (hx : p.tables.exec = Jvm.exec) {k0 : Fin 4} {v : UInt64} {l' : Array Slot} (hl : storeLocals Ls k0.val (.double v) = some l') (hd : decode c.code pc = .ok (.dstore_n k0, 1)) (hq : pc + 1 = q) (k : Ends p l e R s m args below meth c C S Q T (mkF m q l' (st))) : Ends p l e R s m args below meth c C S Q T (mkF m pc Ls (.double v :: st)) := step (fun _ h => by subst hq; exact XS.dstoreN X.here hx rfl hd rfl hl h) k
theorem dstore (X : Stand p l e R s m args below meth c T locs cells slots) (hx : p.tables.exec = Jvm.exec) {k0 : Nat} {v : UInt64} {l' : Array Slot} (hl : storeLocals Ls k0 (.double v) = some l') (hd : decode c.code pc = .ok (.dstore k0, 2)) (hq : pc + 2 = q) (k : Ends p l e R s m args below meth c C S Q T (mkF m q l' (st))) : Ends p l e R s m args below meth c C S Q T (mkF m pc Ls (.double v :: st)) := step (fun _ h => by subst hq; exact XS.dstore X.here hx rfl hd rfl hl h) k
theorem i2d (X : Stand p l e R s m args below meth c T locs cells slots) (hx : p.tables.exec = Jvm.exec) {x : Int32} (hd : decode c.code pc = .ok (.i2d, 1)) (hq : pc + 1 = q) (k : Ends p l e R s m args below meth c C S Q T (mkF m q Ls (.double (FP.i2d x) :: st))) : Ends p l e R s m args below meth c C S Q T (mkF m pc Ls (.int x :: st)) := step (fun _ h => by subst hq; exact XS.i2dS X.here hx rfl hd rfl rfl h) k
theorem b53_i (x : Int32) : B53 x.toInt64 := by
  have h := rng32 x
  unfold B53; rw [c_i2l]
  exact ⟨Int.lt_of_lt_of_le (by decide) h.1, Int.lt_trans h.2 (by decide)⟩
theorem dcmp_i (x y : Int32) (o : CmpOp) : cmpValue (FP.dcmp (FP.i2d x) (FP.i2d y)) o = lcmpW x.toInt64 y.toInt64 := by
  rw [i2d_w, i2d_w]; exact dcmpV_w (b53_i x) (b53_i y) o
theorem dcmpI (X : Stand p l e R s m args below meth c T locs cells slots) (hx : p.tables.exec = Jvm.exec) {o : CmpOp} {x y : Int32} (hd : decode c.code pc = .ok (.dcmp o, 1)) (hq : pc + 1 = q) (k : Ends p l e R s m args below meth c C S Q T (mkF m q Ls (.int (lcmpW x.toInt64 y.toInt64) :: st))) : Ends p l e R s m args below meth c C S Q T (mkF m pc Ls (.double (FP.i2d y) :: .double (FP.i2d x) :: st)) := step (fun _ h => by subst hq; exact XS.dcmpS X.here hx rfl hd rfl (dcmp_i x y o) h) k
theorem ldc2Long (X : Stand p l e R s m args below meth c T locs cells slots) (hx : p.tables.exec = Jvm.exec) {Z : State} {a0 : Array Value} (hZ : Z.Warmed39 s.vm) {own : String} (hown : s.vm.findClass own = some m.cls) {index : Nat} {v : Int64} (w : (Jvm.Cond.constantLong own index v).before a0 Z = true) (hd : decode c.code pc = .ok (.ldc2_w index, 3)) (hq : pc + 3 = q) (k : Ends p l e R s m args below meth c C S Q T (mkF m q Ls (.long v :: st))) : Ends p l e R s m args below meth c C S Q T (mkF m pc Ls st) := step (fun t h => by subst hq; exact X.ldc2Long hx hown (mvT hZ w) (g := mkF m pc Ls st) rfl hd t h) k
theorem ldcInt (X : Stand p l e R s m args below meth c T locs cells slots) (hx : p.tables.exec = Jvm.exec) {Z : State} {a0 : Array Value} (hZ : Z.Warmed39 s.vm) {own : String} (hown : s.vm.findClass own = some m.cls) {index : Nat} {v : Int32} (w : (Jvm.Cond.constant own index v).before a0 Z = true) (hd : decode c.code pc = .ok (.ldc index, 2)) (hq : pc + 2 = q) (k : Ends p l e R s m args below meth c C S Q T (mkF m q Ls (.int v :: st))) : Ends p l e R s m args below meth c C S Q T (mkF m pc Ls st) := step (fun t h => by subst hq; exact X.ldcInt hx hown (mvT hZ w) (g := mkF m pc Ls st) rfl hd t h) k
theorem retZ (X : Stand p l e R s m args below meth c T locs cells slots) (hx : p.tables.exec = Jvm.exec) {z : Int32} {t : FieldType} (hret : meth.sig.returnType = some t) (ht : t = .boolean ∨ t = .byte ∨ t = .char ∨ t = .short) (hd : decode c.code pc = .ok (.ireturn, 1)) (hQ : Q (some (.int (nar t z))) T.heap locs) (hc : cells ≤ C) (hs : slots ≤ S) : Ends p l e R s m args below meth c C S Q T (mkF m pc Ls (.int z :: st)) :=
  ⟨T, locs, cells, slots, _, X, hQ, hc, hs, (fun h => by rw [hret] at h; cases h), fun fs hl => retN X hx hret ht hd hl⟩
theorem retG (X : Stand p l e R s m args below meth c T locs cells slots) (hx : p.tables.exec = Jvm.exec) {w : Value} {t : FieldType} {i : Instr} (hret : meth.sig.returnType = some t) (hn : narrow t w = w)
    (hi : (i = .ireturn ∧ (t = .int ∨ t = .boolean ∨ t = .byte ∨ t = .char ∨ t = .short) ∧ ∃ z, w = .int z) ∨ (i = .lreturn ∧ t = .long ∧ ∃ z, w = .long z) ∨ (i = .dreturn ∧ t = .double ∧ ∃ z, w = .double z) ∨ (i = .freturn ∧ t = .float ∧ ∃ z, w = .float z) ∨ (i = .areturn ∧ t.isReference = true ∧ w.isRef = true)) (hd : decode c.code pc = .ok (i, 1)) (hQ : Q (some w) T.heap locs) (hc : cells ≤ C) (hs : slots ≤ S) : Ends p l e R s m args below meth c C S Q T (mkF m pc Ls (w :: st)) :=
  ⟨T, locs, cells, slots, _, X, hQ, hc, hs, (fun h => by rw [hret] at h; cases h), fun fs hl => retOut X hx hret hn hi hd hl⟩
theorem retI (X : Stand p l e R s m args below meth c T locs cells slots) (hx : p.tables.exec = Jvm.exec) {z : Int32} (hret : meth.sig.returnType = some .int) (hd : decode c.code pc = .ok (.ireturn, 1)) (hQ : Q (some (.int z)) T.heap locs) (hc : cells ≤ C) (hs : slots ≤ S) : Ends p l e R s m args below meth c C S Q T (mkF m pc Ls (.int z :: st)) := retG X hx hret rfl (Or.inl ⟨rfl, Or.inl rfl, z, rfl⟩) hd hQ hc hs
theorem retL (X : Stand p l e R s m args below meth c T locs cells slots) (hx : p.tables.exec = Jvm.exec) {z : Int64} (hret : meth.sig.returnType = some .long) (hd : decode c.code pc = .ok (.lreturn, 1)) (hQ : Q (some (.long z)) T.heap locs) (hc : cells ≤ C) (hs : slots ≤ S) : Ends p l e R s m args below meth c C S Q T (mkF m pc Ls (.long z :: st)) := retG X hx hret rfl (Or.inr (Or.inl ⟨rfl, rfl, z, rfl⟩)) hd hQ hc hs
theorem retA (X : Stand p l e R s m args below meth c T locs cells slots) (hx : p.tables.exec = Jvm.exec) {v : Value} {t : FieldType} (hret : meth.sig.returnType = some t) (ht : t.isReference = true) (hv : v.isRef = true) (hn : narrow t v = v) (hd : decode c.code pc = .ok (.areturn, 1)) (hQ : Q (some v) T.heap locs) (hc : cells ≤ C) (hs : slots ≤ S) : Ends p l e R s m args below meth c C S Q T (mkF m pc Ls (v :: st)) := retG X hx hret hn (Or.inr (Or.inr (Or.inr (Or.inr ⟨rfl, ht, hv⟩)))) hd hQ hc hs
theorem retV (X : Stand p l e R s m args below meth c T locs cells slots) (hx : p.tables.exec = Jvm.exec) (hret : meth.sig.returnType = none) (hd : decode c.code pc = .ok (.return_, 1)) (hQ : Q none T.heap locs) (hc : cells ≤ C) (hs : slots ≤ S) : Ends p l e R s m args below meth c C S Q T (mkF m pc Ls []) :=
  ⟨T, locs, cells, slots, none, X, hQ, hc, hs, (fun _ => rfl), fun fs hl => X.returnOut hx hret hd hl⟩
theorem callS (X : Stand p l e R s m args below meth c T locs cells slots) (hx : p.tables.exec = Jvm.exec) {Z : State} {a0 : Array Value} (hZ : Z.Warmed39 s.vm) {own : String} (hown : s.vm.findClass own = some m.cls) {index : Nat} {h : Heap} (eT : T.heap = h) {y : MethodName} {bytes : ByteArray} {maxL : Nat} {ret : Option FieldType} {rm : Room} {Qc : Option Value → Heap → List Loc → Prop} (w1 : (Jvm.Cond.methodLink own index y).before a0 Z = true) (w2 : (Jvm.Cond.static y).before a0 Z = true) (w3 : (Jvm.Cond.initialized y.cls).before a0 Z = true) (w4 : (Jvm.Cond.code y bytes maxL ret).before a0 Z = true) (hy : y.cls ≠ "java/lang/invoke/MethodHandle" ∧ y.cls ≠ "java/lang/invoke/VarHandle")
    {argsL : List Value} (hM : Pays l Z y bytes maxL ret [] rm argsL.toArray h Qc) (hsize : Ls.size = c.maxLocals) {ps : List FieldType} {rt : Option FieldType} (hsig : parseMethodDescriptor y.desc = some ⟨ps, rt⟩) (hlen : argsL.length = ps.length) {W : Nat} (hW : (rest.map fun v => v.category).sum ≤ W) (hf : rm.frames + 1 ≤ R.frames) (hl : W + (maxL + 11) + rm.locals ≤ R.locals) (hcc : cells + rm.cells ≤ R.cells) (hss : slots + rm.slots ≤ R.slots) (hst : st = argsL.reverse ++ rest) (hd : decode c.code pc = .ok (.invokestatic index, 3)) (hq : pc + 3 = q) (k : ∀ (T' : State) (v : Option Value) (L : List Loc), Stand p l e R s m args below meth c T' (locs ++ L) (cells + rm.cells) (slots + rm.slots) → Qc v T'.heap L → Ends p l e R s m args below meth c C S Q T' (mkF m q Ls (v.toList ++ rest))) : Ends p l e R s m args below meth c C S Q T (mkF m pc Ls st) := by
  obtain ⟨v, _, ⟨T', L', k', n'⟩, -, X', ⟨L, hQ, l1, y1, z1⟩, stp⟩ := Jvm.LawKit.callS X hx (y := y) hown (mvT hZ w1) (mvT hZ w2) (mvT hZ w3) (mvT hZ w4) hy (backOf (W := W) hM hZ w4 w3 hf hl) (g := mkF m pc Ls st) rfl hsize (argsL := argsL) (rest := rest) (lenOf hsig hlen) hst (by show 2 * 0 + _ ≤ _; omega) hd (fun _ _ => ⟨rfl, eT, hcc, hss⟩)
  dsimp only [Pt.U, Pt.locs, Pt.cells, Pt.slots] at X' l1 y1 z1 stp hQ
  subst l1 y1 z1 hq
  exact step stp (k T' v L X' hQ)
theorem callI (X : Stand p l e R s m args below meth c T locs cells slots) (hx : p.tables.exec = Jvm.exec) {Z : State} {a0 : Array Value} (hZ : Z.Warmed39 s.vm) {own : String} (hown : s.vm.findClass own = some m.cls) {index : Nat} {h : Heap} (eT : T.heap = h) {y : MethodName} {bytes : ByteArray} {maxL : Nat} {rm : Room} {Qc : Option Value → Heap → List Loc → Prop} (hy1 : y.name = "<init>") (w1 : (Jvm.Cond.methodLink own index y).before a0 Z = true) (w2 : (Jvm.Cond.instanceMethod y).before a0 Z = true) (w3 : (Jvm.Cond.initialized y.cls).before a0 Z = true) (w4 : (Jvm.Cond.code y bytes maxL none).before a0 Z = true) (hy : y.cls ≠ "java/lang/invoke/MethodHandle" ∧ y.cls ≠ "java/lang/invoke/VarHandle")
    {a : Addr} {argsL : List Value} (hM : Pays l Z y bytes maxL none [] rm (Value.ref a :: argsL).toArray h Qc) (hsize : Ls.size = c.maxLocals) {ps : List FieldType} {rt : Option FieldType} (hsig : parseMethodDescriptor y.desc = some ⟨ps, rt⟩) (hlen : argsL.length = ps.length) {W : Nat} (hW : (rest.map fun v => v.category).sum ≤ W) (hf : rm.frames + 1 ≤ R.frames) (hl : W + (maxL + 11) + rm.locals ≤ R.locals) (hcc : cells + rm.cells ≤ R.cells) (hss : slots + rm.slots ≤ R.slots) (hst : st = argsL.reverse ++ .ref a :: rest) (hd : decode c.code pc = .ok (.invokespecial index, 3)) (hq : pc + 3 = q) (k : ∀ (T' : State) (v : Option Value) (L : List Loc), Stand p l e R s m args below meth c T' (locs ++ L) (cells + rm.cells) (slots + rm.slots) → Qc v T'.heap L → Ends p l e R s m args below meth c C S Q T' (mkF m q Ls (v.toList ++ rest))) : Ends p l e R s m args below meth c C S Q T (mkF m pc Ls st) := by
  obtain ⟨v, _, ⟨T', L', k', n'⟩, -, X', ⟨L, hQ, l1, y1, z1⟩, stp⟩ := X.specialBack hx (y := y) hy1 hown (mvT hZ w1) (mvT hZ w2) (mvT hZ w4) hy (backOf (W := W) hM hZ w4 w3 hf hl) (g := mkF m pc Ls st) rfl hsize (Steps.refl _) (a := a) (argsL := argsL) (rest := rest) (lenOf hsig hlen) hst (by show 2 * 0 + _ ≤ _; omega) hd (fun _ _ => ⟨rfl, eT, hcc, hss⟩)
  dsimp only [Pt.U, Pt.locs, Pt.cells, Pt.slots] at X' l1 y1 z1 stp hQ
  subst l1 y1 z1 hq
  exact step (fun _ h => stp.trans h) (k T' v L X' hQ)
theorem callV (X : Stand p l e R s m args below meth c T locs cells slots) (hx : p.tables.exec = Jvm.exec) {Z : State} {a0 : Array Value} (hZ : Z.Warmed39 s.vm) {own : String} (hown : s.vm.findClass own = some m.cls) {index : Nat} {h : Heap} (eT : T.heap = h) {y z : MethodName} {K : String} {bytes : ByteArray} {maxL : Nat} {ret : Option FieldType} {rm : Room} {Qc : Option Value → Heap → List Loc → Prop} (w1 : (Jvm.Cond.methodLink own index y).before a0 Z = true) (w2 : (Jvm.Cond.declares y).before a0 Z = true) (hnf : NotFace s y) (w5 : (Jvm.Cond.selects K y z).before a0 Z = true) (w6 : (Jvm.Cond.instanceMethod z).before a0 Z = true) (w3 : (Jvm.Cond.initialized z.cls).before a0 Z = true) (w4 : (Jvm.Cond.code z bytes maxL ret).before a0 Z = true) (hy : y.cls ≠ "java/lang/invoke/MethodHandle" ∧ y.cls ≠ "java/lang/invoke/VarHandle")
    {a : Addr} (E : Exa Z h a K) {argsL : List Value} (hM : Pays l Z z bytes maxL ret [] rm (Value.ref a :: argsL).toArray h Qc) (hsize : Ls.size = c.maxLocals) {ps : List FieldType} {rt : Option FieldType} (hsig : parseMethodDescriptor y.desc = some ⟨ps, rt⟩) (hlen : argsL.length = ps.length) {W : Nat} (hW : (rest.map fun v => v.category).sum ≤ W) (hf : rm.frames + 1 ≤ R.frames) (hl : W + (maxL + 11) + rm.locals ≤ R.locals) (hcc : cells + rm.cells ≤ R.cells) (hss : slots + rm.slots ≤ R.slots) (hst : st = argsL.reverse ++ .ref a :: rest) (hd : decode c.code pc = .ok (.invokevirtual index, 3)) (hq : pc + 3 = q) (k : ∀ (T' : State) (v : Option Value) (L : List Loc), Stand p l e R s m args below meth c T' (locs ++ L) (cells + rm.cells) (slots + rm.slots) → Qc v T'.heap L → Ends p l e R s m args below meth c C S Q T' (mkF m q Ls (v.toList ++ rest))) : Ends p l e R s m args below meth c C S Q T (mkF m pc Ls st) := by
  obtain ⟨cq, kq, qa, qb, qc⟩ := isOf hZ eT E
  obtain ⟨v, _, ⟨T', L', k', n'⟩, -, X', ⟨L, hQ, l1, y1, z1⟩, stp⟩ := X.virtualBack hx (y := y) (z := z) hown (mvT hZ w1) (mvT hZ w2) hnf (mvT hZ w5) (mvT hZ w6) hy (backOf (W := W) hM hZ w4 w3 hf hl) qa qc (g := mkF m pc Ls st) rfl hsize (Steps.refl _) (argsL := argsL) (rest := rest) (lenOf hsig hlen) hst (by show 2 * 0 + _ ≤ _; omega) hd (fun _ _ => ⟨rfl, eT, hcc, hss⟩)
  dsimp only [Pt.U, Pt.locs, Pt.cells, Pt.slots] at X' l1 y1 z1 stp hQ
  subst l1 y1 z1 hq
  exact step (fun _ h => stp.trans h) (k T' v L X' hQ)
theorem pureK {T' : State} {v V : Option Value} {h : Heap} {L : List Loc} (X' : Stand p l e R s m args below meth c T' (locs ++ L) (cells + 0) (slots + 0)) (hQ : RetQ V h v T'.heap L) : Stand p l e R s m args below meth c T' locs cells slots ∧ T'.heap = h ∧ v = V := by
  obtain ⟨h1, h2, rfl⟩ := hQ
  rw [List.append_nil] at X'
  exact ⟨X', h2, h1⟩
theorem iteP {α : Type} {P : α → Prop} {c : Prop} [Decidable c] {a b : α} (h1 : P a) (h2 : P b) : P (if c then a else b) := by split <;> assumption
theorem cat_of {v : Value} (h : v.isRef = true) : v.category = 1 := by rcases ref_cases h with rfl | ⟨a, rfl⟩ <;> rfl
theorem c_t {cd : ClassFile.Cond} {x : Int32} {b : Bool} (h : if_icmp.holds cd x 0 = b) : ifCond.holds cd x = b := (if0 cd x).trans h
theorem Ext_trans {h0 h h' : Heap} (E : Ext h0 h) (E' : Ext h h') : Ext h0 h' := ⟨Nat.le_trans E.1 E'.1, fun a c q => E'.2 a c (E.2 a c q)⟩
theorem Ext_wr {h0 h h' : Heap} {a : Addr} {sl : Nat} {v : Value} (E : Ext h0 h) (W : Wr h h' a sl v) (q : h0.size ≤ a) : Ext h0 h' :=
  ⟨Nat.le_trans E.1 (Keep.of_wr W).1, fun b c r => (Keep.of_wr W).2.1 b c (E.2 b c r) (ninS (Nat.ne_of_lt (Nat.lt_of_lt_of_le (Array.getElem?_eq_some_iff.mp r).1 q)) nin0)⟩
theorem Ext_keep {h0 h h' : Heap} {ws : List Addr} (E : Ext h0 h) (K : Keep h h' ws) (q : ∀ x ∈ ws, h0.size ≤ x) : Ext h0 h' :=
  ⟨Nat.le_trans E.1 K.1, fun b c r => K.2.1 b c (E.2 b c r) fun z => absurd (Array.getElem?_eq_some_iff.mp r).1 (Nat.not_lt.mpr (q b z))⟩
theorem rr_t {a b : Addr} (h : a = b) : decide ((Value.ref a : Value) = .ref b) = true := decide_eq_true (congrArg Value.ref h)
theorem rr_f {a b : Addr} (h : ¬ a = b) : decide ((Value.ref a : Value) = .ref b) = false := decide_eq_false fun q => h (Value.ref.inj q)
theorem l_t {x y : Int64} (h : x < y) : lcmpW x y < 0 := (lw_lt x y).mpr h
theorem l_f {x y : Int64} (h : ¬ x < y) : ¬ lcmpW x y < 0 := fun q => h ((lw_lt x y).mp q)
theorem g_t {x y : Int64} (h : y < x) : 0 < lcmpW x y := (lw_gt x y).mpr h
theorem g_f {x y : Int64} (h : ¬ y < x) : ¬ 0 < lcmpW x y := fun q => h ((lw_gt x y).mp q)
theorem e_t {x y : Int64} (h : x = y) : lcmpW x y = 0 := (lw_eq x y).mpr h
theorem e_f {x y : Int64} (h : ¬ x = y) : ¬ lcmpW x y = 0 := fun q => h ((lw_eq x y).mp q)
end
end Jvm.EKit
namespace Jvm.EKit
open Sem ClassFile Op Lib Jvm.Stand Jvm.Free Jvm.LawKit Jvm.RoadKit
/-- the array at a: its class, kind, length, and what lies at each place -/
def Ary (Z : State) (h : Heap) (a : Addr) (k : ClassId) (ty : FieldType) (n : Int32) (f : Int32 → Value) : Prop :=
  ∃ cl : Cell, Arr Z h a cl ty ∧ cl.cls = k ∧ cl.slots.size = n.toNatClampNeg ∧ ¬ n < 0 ∧ ∀ j : Int32, ¬ j < 0 → j < n → cl.slots[j.toNatClampNeg]? = some (f j)
section
variable {Z : State} {h h' : Heap} {a b : Addr} {k : ClassId} {ty : FieldType} {n : Int32} {f : Int32 → Value}
theorem Ary.lt (F : Ary Z h a k ty n f) : a < h.size := by obtain ⟨cl, A, -⟩ := F; exact A.lt
theorem Ary.ext (F : Ary Z h a k ty n f) (E : Ext h h') : Ary Z h' a k ty n f := by obtain ⟨cl, A, r⟩ := F; exact ⟨cl, A.ext E, r⟩
theorem Ary.other {sl : Nat} {v : Value} (F : Ary Z h b k ty n f) (W : Wr h h' a sl v) (q : b ≠ a) : Ary Z h' b k ty n f := by obtain ⟨cl, A, r⟩ := F; exact ⟨cl, A.other W q, r⟩
theorem Ary.keep {ws : List Addr} (F : Ary Z h a k ty n f) (K : Keep h h' ws) (q : a ∉ ws) : Ary Z h' a k ty n f := by obtain ⟨cl, A, r⟩ := F; exact ⟨cl, ⟨K.2.1 a cl A.1 q, A.2⟩, r⟩
theorem Ary.new (A : Arr Z h a (newA k ty n) ty) (q : ¬ n < 0) : Ary Z h a k ty n (fun _ => defaultValue ty) :=
  ⟨_, A, rfl, sz_new _ _ _, q, fun j h1 h2 => get_new (by rw [← sz_new k ty n]; exact inb_of (sz_new k ty n) ⟨h1, h2⟩)⟩
theorem Ary.eq {g : Int32 → Value} (F : Ary Z h a k ty n f) (q : ∀ j : Int32, ¬ j < 0 → j < n → f j = g j) : Ary Z h a k ty n g := by
  obtain ⟨cl, A, r1, r2, r3, r4⟩ := F; exact ⟨cl, A, r1, r2, r3, fun j h1 h2 => (r4 j h1 h2).trans (congrArg some (q j h1 h2))⟩
theorem evalEq {args : Array Value} {first s : State} {o : Option Outcome} {idx : List Nat} {t u : Jvm.Term} {v : Value} (h : (Jvm.Cond.eq t u).value args first o s idx = some true) (hu : u.eval args first o idx s = some v) : t.eval args first o idx s = some v := by
  simp only [Cond.value, hu] at h
  cases ht : t.eval args first o idx s with
  | none => simp [ht] at h
  | some w => cases w <;> cases v <;> simp [ht] at h <;> simp [h]
theorem evalLen {args : Array Value} {first s : State} {o : Option Outcome} {idx : List Nat} {t : Jvm.Term} {x : Addr} {cl : Cell} {z : Int32} (h : (Jvm.Term.length t).eval args first o idx s = some (.int z)) (ht : t.eval args first o idx s = some (.ref x)) (A : Arr s s.heap x cl ty) : cl.slots.size = z.toNatClampNeg ∧ ¬ z < 0 := by
  have ha := A.fin (U := s) (Vm.Alike.refl _)
  simp only [Term.eval, ht, ha, Option.bind_eq_bind, Option.bind_some] at h
  by_cases hl : cl.slots.size < 2 ^ 31
  · simp [hl] at h
    subst h
    have e : cl.slots.size.toInt32.toInt = cl.slots.size := len_toInt hl
    refine ⟨by simp only [Int32.toNatClampNeg, e]; rfl, ?_⟩
    rw [Int32.lt_iff_toInt_lt, e]; exact Int.not_lt.mpr (Int.natCast_nonneg _)
  · simp [hl] at h
theorem Ary.start {cl : Cell} (A : Arr Z h a cl ty) (r2 : cl.slots.size = n.toNatClampNeg) (r3 : ¬ n < 0) (r4 : ∀ i : Nat, i < n.toNatClampNeg → cl.slots[i]? = some (f (Int32.ofNat i))) : Ary Z h a cl.cls ty n f := by
  refine ⟨cl, A, rfl, r2, r3, fun j h1 h2 => ?_⟩
  have e := back32 h1
  have q := r4 j.toNatClampNeg (by
    rw [Int32.lt_iff_toInt_lt] at h1 h2
    rw [show (0 : Int32).toInt = 0 from rfl] at h1
    simp only [Int32.toNatClampNeg]; omega)
  rw [q]; exact congrArg (fun z => some (f z)) e.1
theorem clamp_inj {i j : Int32} (hi : ¬ i < 0) (hj : ¬ j < 0) (q : i.toNatClampNeg = j.toNatClampNeg) : i = j := by
  rw [Int32.lt_iff_toInt_lt, show (0 : Int32).toInt = 0 from rfl] at hi hj
  apply Int32.toInt_inj.mp
  have e1 : i.toNatClampNeg = i.toInt.toNat := rfl
  have e2 : j.toNatClampNeg = j.toInt.toNat := rfl
  omega
theorem Ary.set {cl : Cell} {i : Int32} {v : Value} (A : Arr Z h a cl ty) (r1 : cl.cls = k) (r2 : cl.slots.size = n.toNatClampNeg) (r3 : ¬ n < 0) (r4 : ∀ j : Int32, ¬ j < 0 → j < n → cl.slots[j.toNatClampNeg]? = some (f j)) (hi : ¬ i < 0) (hn : i < n) (W : Wr h h' a i.toNatClampNeg v) : Ary Z h' a k ty n (fun j => if j = i then v else f j) := by
  refine ⟨_, A.same W, r1, (sz_set _ _ _).trans r2, r3, fun j h1 h2 => ?_⟩
  by_cases q : j = i
  · exact (get_hit (inb_of r2 ⟨hi, hn⟩) q).trans (congrArg some (if_pos q).symm)
  · exact ((get_miss hi h1 q).trans (r4 j h1 h2)).trans (congrArg some (if_neg q).symm)
end
section
variable {p : Program} {l : Launch} {e : Env} {R : Room} {s : State} {m : MethodId} {args : Array Value} {below : List Frame} {meth : Method} {c : Code} {T : State} {locs : List Loc} {cells slots : Nat} {C S : Nat} {Q : Option Value → Heap → List Loc → Prop} {pc q : Nat} {Ls : Array Slot} {st : List Value} {Z : State} {h : Heap} {a : Addr} {k : ClassId} {n j : Int32} {f : Int32 → Value}

theorem alen (X : Stand p l e R s m args below meth c T locs cells slots) (hx : p.tables.exec = Jvm.exec) (hZ : Z.Warmed39 s.vm) (eT : T.heap = h) {ty : FieldType} (F : Ary Z h a k ty n f) (hd : decode c.code pc = .ok (.arraylength, 1)) (hq : pc + 1 = q) (kk : Ends p l e R s m args below meth c C S Q T (mkF m q Ls (.int n :: st))) : Ends p l e R s m args below meth c C S Q T (mkF m pc Ls (.ref a :: st)) := by
  obtain ⟨cl, A, r1, r2, r3, r4⟩ := F
  subst hq
  exact step (fun t h => X.arraylength hx (by rw [eT]; exact A.1) (State.isArrayOf_alike hZ.alike A.2.1) (g := mkF m pc Ls (.ref a :: st)) rfl rfl hd t (by rw [len_of r2 r3]; exact h)) kk
theorem iaload (X : Stand p l e R s m args below meth c T locs cells slots) (hx : p.tables.exec = Jvm.exec) (hZ : Z.Warmed39 s.vm) (eT : T.heap = h) (F : Ary Z h a k .int n f) (h1 : ¬ j < 0) (h2 : j < n) {v : Value} (hv : f j = v) (hd : decode c.code pc = .ok (.iaload, 1)) (hq : pc + 1 = q) (kk : Ends p l e R s m args below meth c C S Q T (mkF m q Ls (v :: st))) : Ends p l e R s m args below meth c C S Q T (mkF m pc Ls (.int j :: .ref a :: st)) := by
  obtain ⟨cl, A, r1, r2, r3, r4⟩ := F
  subst hq hv
  exact step (fun t h => X.iaload hx (by rw [eT]; exact A.1) (State.isArrayOf_alike hZ.alike A.2.1) A.2.2 (inb_of r2 ⟨h1, h2⟩) (r4 j h1 h2) (g := mkF m pc Ls (.int j :: .ref a :: st)) rfl rfl hd t h) kk
theorem laload (X : Stand p l e R s m args below meth c T locs cells slots) (hx : p.tables.exec = Jvm.exec) (hZ : Z.Warmed39 s.vm) (eT : T.heap = h) (F : Ary Z h a k .long n f) (h1 : ¬ j < 0) (h2 : j < n) {v : Value} (hv : f j = v) (hd : decode c.code pc = .ok (.laload, 1)) (hq : pc + 1 = q) (kk : Ends p l e R s m args below meth c C S Q T (mkF m q Ls (v :: st))) : Ends p l e R s m args below meth c C S Q T (mkF m pc Ls (.int j :: .ref a :: st)) := by
  obtain ⟨cl, A, r1, r2, r3, r4⟩ := F
  subst hq hv
  exact step (fun t h => X.laload hx (by rw [eT]; exact A.1) (State.isArrayOf_alike hZ.alike A.2.1) A.2.2 (inb_of r2 ⟨h1, h2⟩) (r4 j h1 h2) (g := mkF m pc Ls (.int j :: .ref a :: st)) rfl rfl hd t h) kk
theorem caload (X : Stand p l e R s m args below meth c T locs cells slots) (hx : p.tables.exec = Jvm.exec) (hZ : Z.Warmed39 s.vm) (eT : T.heap = h) (F : Ary Z h a k .char n f) (h1 : ¬ j < 0) (h2 : j < n) {v : Value} (hv : f j = v) (hd : decode c.code pc = .ok (.caload, 1)) (hq : pc + 1 = q) (kk : Ends p l e R s m args below meth c C S Q T (mkF m q Ls (v :: st))) : Ends p l e R s m args below meth c C S Q T (mkF m pc Ls (.int j :: .ref a :: st)) := by
  obtain ⟨cl, A, r1, r2, r3, r4⟩ := F
  subst hq hv
  exact step (fun t h => X.caload hx (by rw [eT]; exact A.1) (State.isArrayOf_alike hZ.alike A.2.1) A.2.2 (inb_of r2 ⟨h1, h2⟩) (r4 j h1 h2) (g := mkF m pc Ls (.int j :: .ref a :: st)) rfl rfl hd t h) kk
theorem baloadB (X : Stand p l e R s m args below meth c T locs cells slots) (hx : p.tables.exec = Jvm.exec) (hZ : Z.Warmed39 s.vm) (eT : T.heap = h) (F : Ary Z h a k .byte n f) (h1 : ¬ j < 0) (h2 : j < n) {v : Value} (hv : f j = v) (hd : decode c.code pc = .ok (.baload, 1)) (hq : pc + 1 = q) (kk : Ends p l e R s m args below meth c C S Q T (mkF m q Ls (v :: st))) : Ends p l e R s m args below meth c C S Q T (mkF m pc Ls (.int j :: .ref a :: st)) := by
  obtain ⟨cl, A, r1, r2, r3, r4⟩ := F
  subst hq hv
  exact step (fun t h => X.baloadBytes hx (by rw [eT]; exact A.1) (State.isArrayOf_alike hZ.alike A.2.1) A.2.2 (inb_of r2 ⟨h1, h2⟩) (r4 j h1 h2) (g := mkF m pc Ls (.int j :: .ref a :: st)) rfl rfl hd t h) kk
theorem baloadZ (X : Stand p l e R s m args below meth c T locs cells slots) (hx : p.tables.exec = Jvm.exec) (hZ : Z.Warmed39 s.vm) (eT : T.heap = h) (F : Ary Z h a k .boolean n f) (h1 : ¬ j < 0) (h2 : j < n) {v : Value} (hv : f j = v) (hd : decode c.code pc = .ok (.baload, 1)) (hq : pc + 1 = q) (kk : Ends p l e R s m args below meth c C S Q T (mkF m q Ls (v :: st))) : Ends p l e R s m args below meth c C S Q T (mkF m pc Ls (.int j :: .ref a :: st)) := by
  obtain ⟨cl, A, r1, r2, r3, r4⟩ := F
  subst hq hv
  exact step (fun t h => X.baloadBooleans hx (by rw [eT]; exact A.1) (State.isArrayOf_alike hZ.alike A.2.1) A.2.2 (inb_of r2 ⟨h1, h2⟩) (r4 j h1 h2) (g := mkF m pc Ls (.int j :: .ref a :: st)) rfl rfl hd t h) kk
theorem aaload (X : Stand p l e R s m args below meth c T locs cells slots) (hx : p.tables.exec = Jvm.exec) (hZ : Z.Warmed39 s.vm) (eT : T.heap = h) {ty : FieldType} (hty : ty.isReference = true) (F : Ary Z h a k ty n f) (h1 : ¬ j < 0) (h2 : j < n) {v : Value} (hv : f j = v) (hd : decode c.code pc = .ok (.aaload, 1)) (hq : pc + 1 = q) (kk : Ends p l e R s m args below meth c C S Q T (mkF m q Ls (v :: st))) : Ends p l e R s m args below meth c C S Q T (mkF m pc Ls (.int j :: .ref a :: st)) := by
  obtain ⟨cl, A, r1, r2, r3, r4⟩ := F
  subst hq hv
  exact step (fun t h => X.aaload hx (by rw [eT]; exact A.1) (State.isArrayOf_alike hZ.alike A.2.1) hty A.2.2 (inb_of r2 ⟨h1, h2⟩) (r4 j h1 h2) (g := mkF m pc Ls (.int j :: .ref a :: st)) rfl rfl hd t h) kk
theorem iastore (X : Stand p l e R s m args below meth c T locs cells slots) (hx : p.tables.exec = Jvm.exec) (hZ : Z.Warmed39 s.vm) (eT : T.heap = h) (F : Ary Z h a k .int n f) {x : Int32} (h1 : ¬ j < 0) (h2 : j < n) (hd : decode c.code pc = .ok (.iastore, 1)) (hq : pc + 1 = q)
    (kk : ∀ (T' : State) (h' : Heap), Stand p l e R s m args below meth c T' (locs ++ [⟨a, j.toNatClampNeg⟩]) cells slots → T'.heap = h' → Wr h h' a j.toNatClampNeg (.int x) → Ary Z h' a k .int n (fun i => if i = j then .int x else f i) → Ends p l e R s m args below meth c C S Q T' (mkF m q Ls st)) : Ends p l e R s m args below meth c C S Q T (mkF m pc Ls (.int x :: .int j :: .ref a :: st)) := by
  obtain ⟨cl, A, r1, r2, r3, r4⟩ := F
  obtain ⟨T', h', X', e', W', stp⟩ := stI X hx hZ eT A (j := j) (x := x) (inb_of r2 ⟨h1, h2⟩) (g := mkF m pc Ls (.int x :: .int j :: .ref a :: st)) rfl rfl hd
  subst hq
  exact step stp (kk T' h' X' e' W' (Ary.set A r1 r2 r3 r4 h1 h2 W'))
theorem lastore (X : Stand p l e R s m args below meth c T locs cells slots) (hx : p.tables.exec = Jvm.exec) (hZ : Z.Warmed39 s.vm) (eT : T.heap = h) (F : Ary Z h a k .long n f) {x : Int64} (h1 : ¬ j < 0) (h2 : j < n) (hd : decode c.code pc = .ok (.lastore, 1)) (hq : pc + 1 = q)
    (kk : ∀ (T' : State) (h' : Heap), Stand p l e R s m args below meth c T' (locs ++ [⟨a, j.toNatClampNeg⟩]) cells slots → T'.heap = h' → Wr h h' a j.toNatClampNeg (.long x) → Ary Z h' a k .long n (fun i => if i = j then .long x else f i) → Ends p l e R s m args below meth c C S Q T' (mkF m q Ls st)) : Ends p l e R s m args below meth c C S Q T (mkF m pc Ls (.long x :: .int j :: .ref a :: st)) := by
  obtain ⟨cl, A, r1, r2, r3, r4⟩ := F
  obtain ⟨T', h', X', e', W', stp⟩ := stJ X hx hZ eT A (j := j) (x := x) (inb_of r2 ⟨h1, h2⟩) (g := mkF m pc Ls (.long x :: .int j :: .ref a :: st)) rfl rfl hd
  subst hq
  exact step stp (kk T' h' X' e' W' (Ary.set A r1 r2 r3 r4 h1 h2 W'))
theorem castore (X : Stand p l e R s m args below meth c T locs cells slots) (hx : p.tables.exec = Jvm.exec) (hZ : Z.Warmed39 s.vm) (eT : T.heap = h) (F : Ary Z h a k .char n f) {x : Int32} (h1 : ¬ j < 0) (h2 : j < n) (hd : decode c.code pc = .ok (.castore, 1)) (hq : pc + 1 = q)
    (kk : ∀ (T' : State) (h' : Heap), Stand p l e R s m args below meth c T' (locs ++ [⟨a, j.toNatClampNeg⟩]) cells slots → T'.heap = h' → Wr h h' a j.toNatClampNeg (.int (nar .char x)) → Ary Z h' a k .char n (fun i => if i = j then .int (nar .char x) else f i) → Ends p l e R s m args below meth c C S Q T' (mkF m q Ls st)) : Ends p l e R s m args below meth c C S Q T (mkF m pc Ls (.int x :: .int j :: .ref a :: st)) := by
  obtain ⟨cl, A, r1, r2, r3, r4⟩ := F
  obtain ⟨T', h', X', e', W', stp⟩ := stC X hx hZ eT A (j := j) (x := x) (inb_of r2 ⟨h1, h2⟩) (g := mkF m pc Ls (.int x :: .int j :: .ref a :: st)) rfl rfl hd
  subst hq
  exact step stp (kk T' h' X' e' W' (Ary.set A r1 r2 r3 r4 h1 h2 W'))
theorem bastoreB (X : Stand p l e R s m args below meth c T locs cells slots) (hx : p.tables.exec = Jvm.exec) (hZ : Z.Warmed39 s.vm) (eT : T.heap = h) (F : Ary Z h a k .byte n f) {x : Int32} (h1 : ¬ j < 0) (h2 : j < n) (hd : decode c.code pc = .ok (.bastore, 1)) (hq : pc + 1 = q)
    (kk : ∀ (T' : State) (h' : Heap), Stand p l e R s m args below meth c T' (locs ++ [⟨a, j.toNatClampNeg⟩]) cells slots → T'.heap = h' → Wr h h' a j.toNatClampNeg (.int (nar .byte x)) → Ary Z h' a k .byte n (fun i => if i = j then .int (nar .byte x) else f i) → Ends p l e R s m args below meth c C S Q T' (mkF m q Ls st)) : Ends p l e R s m args below meth c C S Q T (mkF m pc Ls (.int x :: .int j :: .ref a :: st)) := by
  obtain ⟨cl, A, r1, r2, r3, r4⟩ := F
  obtain ⟨T', h', X', e', W', stp⟩ := stB X hx hZ eT A (j := j) (x := x) (inb_of r2 ⟨h1, h2⟩) (g := mkF m pc Ls (.int x :: .int j :: .ref a :: st)) rfl rfl hd
  subst hq
  exact step stp (kk T' h' X' e' W' (Ary.set A r1 r2 r3 r4 h1 h2 W'))
theorem bastoreZ (X : Stand p l e R s m args below meth c T locs cells slots) (hx : p.tables.exec = Jvm.exec) (hZ : Z.Warmed39 s.vm) (eT : T.heap = h) (F : Ary Z h a k .boolean n f) {x : Int32} (h1 : ¬ j < 0) (h2 : j < n) (hd : decode c.code pc = .ok (.bastore, 1)) (hq : pc + 1 = q)
    (kk : ∀ (T' : State) (h' : Heap), Stand p l e R s m args below meth c T' (locs ++ [⟨a, j.toNatClampNeg⟩]) cells slots → T'.heap = h' → Wr h h' a j.toNatClampNeg (.int (nar .boolean x)) → Ary Z h' a k .boolean n (fun i => if i = j then .int (nar .boolean x) else f i) → Ends p l e R s m args below meth c C S Q T' (mkF m q Ls st)) : Ends p l e R s m args below meth c C S Q T (mkF m pc Ls (.int x :: .int j :: .ref a :: st)) := by
  obtain ⟨cl, A, r1, r2, r3, r4⟩ := F
  obtain ⟨T', h', X', e', W', stp⟩ := stZ X hx hZ eT A (j := j) (x := x) (inb_of r2 ⟨h1, h2⟩) (g := mkF m pc Ls (.int x :: .int j :: .ref a :: st)) rfl rfl hd
  subst hq
  exact step stp (kk T' h' X' e' W' (Ary.set A r1 r2 r3 r4 h1 h2 W'))
theorem aastore (X : Stand p l e R s m args below meth c T locs cells slots) (hx : p.tables.exec = Jvm.exec) (hZ : Z.Warmed39 s.vm) (eT : T.heap = h) {K : String} (F : Ary Z h a k (.object K) n f) (O : Ovr Z k K) {b : Addr} (I : Ins Z h b K true) (h1 : ¬ j < 0) (h2 : j < n) (hd : decode c.code pc = .ok (.aastore, 1)) (hq : pc + 1 = q)
    (kk : ∀ (T' : State) (h' : Heap), Stand p l e R s m args below meth c T' (locs ++ [⟨a, j.toNatClampNeg⟩]) cells slots → T'.heap = h' → Wr h h' a j.toNatClampNeg (.ref b) → Ary Z h' a k (.object K) n (fun i => if i = j then .ref b else f i) → Ends p l e R s m args below meth c C S Q T' (mkF m q Ls st)) : Ends p l e R s m args below meth c C S Q T (mkF m pc Ls (.ref b :: .int j :: .ref a :: st)) := by
  obtain ⟨cl, A, r1, r2, r3, r4⟩ := F
  subst r1
  obtain ⟨T', h', X', e', W', stp⟩ := stR X hx hZ eT A (j := j) (v := .ref b) (inb_of r2 ⟨h1, h2⟩) rfl (Sto.of A O I) (g := mkF m pc Ls (.ref b :: .int j :: .ref a :: st)) rfl rfl hd
  subst hq
  exact step stp (kk T' h' X' e' W' (Ary.set A rfl r2 r3 r4 h1 h2 W'))
theorem newarr (X : Stand p l e R s m args below meth c T locs cells slots) (hx : p.tables.exec = Jvm.exec) (hZ : Z.Warmed39 s.vm) {a0 : Array Value} (eT : T.heap = h) {aty : ArrayType} (w : (Jvm.Cond.arrayClass (newarray.typeOf aty)).before a0 Z = true) (hn : ¬ n < 0) {cap : Nat} (hcap : n.toNatClampNeg ≤ cap) (hb : cap * 8 ≤ 536870912) (hc : cells + 1 ≤ R.cells) (hl : slots + cap ≤ R.slots) (hd : decode c.code pc = .ok (.newarray aty, 2)) (hq : pc + 2 = q)
    (kk : ∀ (T' : State) (h' : Heap) (b : Addr) (k : ClassId), Stand p l e R s m args below meth c T' locs (cells + 1) (slots + cap) → T'.heap = h' → Ext h h' → b = h.size → Ary Z h' b k (newarray.typeOf aty) n (fun _ => defaultValue (newarray.typeOf aty)) → Ends p l e R s m args below meth c C S Q T' (mkF m q Ls (.ref b :: st))) : Ends p l e R s m args below meth c C S Q T (mkF m pc Ls (.int n :: st)) := by
  obtain ⟨T', h', k', X', e', E', A', stp⟩ := newP X hx hZ w eT (g := mkF m pc Ls (.int n :: st)) rfl hd rfl hn (cap := cap) hcap hb hc hl
  subst hq
  exact step stp (kk T' h' h.size k' X' e' E' rfl (Ary.new A' hn))
theorem newref (X : Stand p l e R s m args below meth c T locs cells slots) (hx : p.tables.exec = Jvm.exec) (hZ : Z.Warmed39 s.vm) {a0 : Array Value} {own K : String} {index : Nat} (hown : s.vm.findClass own = some m.cls) (eT : T.heap = h) (w1 : (Jvm.Cond.classLink own index K).before a0 Z = true) (w2 : (Jvm.Cond.arrayOver (.object K)).before a0 Z = true) (hn : ¬ n < 0) {cap : Nat} (hcap : n.toNatClampNeg ≤ cap) (hb : cap * 8 ≤ 536870912) (hc : cells + 1 ≤ R.cells) (hl : slots + cap ≤ R.slots) (hd : decode c.code pc = .ok (.anewarray index, 3)) (hq : pc + 3 = q)
    (kk : ∀ (T' : State) (h' : Heap) (b : Addr) (k : ClassId), Stand p l e R s m args below meth c T' locs (cells + 1) (slots + cap) → T'.heap = h' → Ext h h' → b = h.size → Ovr Z k K → Ary Z h' b k (.object K) n (fun _ => .null) → Ends p l e R s m args below meth c C S Q T' (mkF m q Ls (.ref b :: st))) : Ends p l e R s m args below meth c C S Q T (mkF m pc Ls (.int n :: st)) := by
  obtain ⟨T', h', k', X', e', E', A', O', stp⟩ := newR X hx hZ hown w1 w2 eT (g := mkF m pc Ls (.int n :: st)) rfl hd rfl hn (cap := cap) hcap hb hc hl
  subst hq
  exact step stp (kk T' h' h.size k' X' e' E' rfl O' (Ary.new A' hn))
end
end Jvm.EKit
namespace Jvm.Pilot.@@N@@
open Jvm Jvm.ClassFile Sem Op Lib Jvm.Free Jvm.Stand Jvm.LawKit Jvm.RoadKit Bundle Jvm.Pilot.@@N@@.Jvm.D Jvm.EKit
theorem ef_rm1 (m : MethodId) (x0 : Addr) (x1 : Int64) (x2 : Int64) (x3 : Int64) : entryFrame m #[(.ref x0), (.long x1), (.long x2), (.long x3)] 7 = mkF m 0 #[.val (.ref x0), .val (.long x1), .second, .val (.long x2), .second, .val (.long x3), .second] [] := by first | (simp [entryFrame, mkF, argsToLocals, Value.category]; done) | rfl
theorem pn_com_example_qbvious_qbvious_model_Figures : plainName "com/example/qbvious/qbvious/model/Figures" = true := by first | (simp [plainName, overriddenIn]; done) | decide +kernel
theorem d1_0 : decode prog_25_method_1_code 0 = .ok (.aload_n 0, 1) := by decide +kernel
theorem d1_1 : decode prog_25_method_1_code 1 = .ok (.invokespecial 1, 3) := by decide +kernel
theorem d1_4 : decode prog_25_method_1_code 4 = .ok (.aload_n 0, 1) := by decide +kernel
theorem d1_5 : decode prog_25_method_1_code 5 = .ok (.lload_n 1, 1) := by decide +kernel
theorem d1_6 : decode prog_25_method_1_code 6 = .ok (.putfield 7, 3) := by decide +kernel
theorem d1_9 : decode prog_25_method_1_code 9 = .ok (.aload_n 0, 1) := by decide +kernel
theorem d1_10 : decode prog_25_method_1_code 10 = .ok (.lload_n 3, 1) := by decide +kernel
theorem d1_11 : decode prog_25_method_1_code 11 = .ok (.putfield 13, 3) := by decide +kernel
theorem d1_14 : decode prog_25_method_1_code 14 = .ok (.aload_n 0, 1) := by decide +kernel
theorem d1_15 : decode prog_25_method_1_code 15 = .ok (.lload 5, 2) := by decide +kernel
theorem d1_17 : decode prog_25_method_1_code 17 = .ok (.putfield 16, 3) := by decide +kernel
theorem d1_20 : decode prog_25_method_1_code 20 = .ok (.return_, 1) := by decide +kernel
set_option maxRecDepth 65536 in
set_option maxHeartbeats 40000000 in
theorem rm1 (l : Launch) (Z : State) (a0 : Array Value) (hw : ∀ d ∈ tables_1, d.before a0 Z = true) (ws : List Jvm.Cond) (r0 : Addr) (q1 : Int64) (q2 : Int64) (q3 : Int64) (h0 : Heap) (n0 : Nat) (gn_r0 : n0 ≤ r0) (E_r0 : Exa Z h0 r0 "com/example/qbvious/qbvious/model/Figures") (F_unscheduled_r0 : Fld Z h0 r0 "com/example/qbvious/qbvious/model/Figures" "unscheduled" "J" (.long (0 : Int64))) (F_excessQueues_r0 : Fld Z h0 r0 "com/example/qbvious/qbvious/model/Figures" "excessQueues" "J" (.long (0 : Int64))) (F_extraLatencyNs_r0 : Fld Z h0 r0 "com/example/qbvious/qbvious/model/Figures" "extraLatencyNs" "J" (.long (0 : Int64))) :
    Pays l Z (⟨"com/example/qbvious/qbvious/model/Figures", "<init>", "(JJJ)V"⟩ : MethodName) prog_25_method_1_code 7 none ws ({ frames := 1, cells := 0, slots := 0, locals := 12 } : Room) #[(.ref r0), (.long q1), (.long q2), (.long q3)] h0 (fun v h L => v = none ∧ Fr n0 L ∧ Keep h0 h [r0] ∧ Exa Z h r0 "com/example/qbvious/qbvious/model/Figures" ∧ Fld Z h r0 "com/example/qbvious/qbvious/model/Figures" "unscheduled" "J" (.long q1) ∧ Fld Z h r0 "com/example/qbvious/qbvious/model/Figures" "excessQueues" "J" (.long q2) ∧ Fld Z h r0 "com/example/qbvious/qbvious/model/Figures" "extraLatencyNs" "J" (.long q3)) := by
  refine EKit.pays (plainFor_of_name pn_com_example_qbvious_qbvious_model_Figures) (fun m => ef_rm1 m r0 q1 q2 q3) ?_
  intro p e s m below meth c s₁ hx hby hml hZ hown hnm hret X0 e0 hs0
  refine EKit.aloadN X0 hx rfl rfl (hb hby d1_0) (q := 1) rfl ?_
  obtain ⟨T1, X1, e1, st1⟩ := initO X0 hx hZ hown (hw _ (List.mem_of_getElem? (i := 6) rfl)) (hw _ (List.mem_of_getElem? (i := 7) rfl)) (hw _ (List.mem_of_getElem? (i := 8) rfl)) e0 (g := (mkF m 1 #[.val (.ref r0), .val (.long q1), .second, .val (.long q2), .second, .val (.long q3), .second] [(.ref r0)])) rfl (by rw [hml]; rfl) rfl (hb hby d1_1) (by decide) (W := 0) (by show 2 * 0 + _ ≤ _; exact Nat.le_of_eq rfl) (by decide)
  refine EKit.step st1 ?_
  show EKit.Ends p l e ({ frames := 1, cells := 0, slots := 0, locals := 12 } : Room) s m #[(.ref r0), (.long q1), (.long q2), (.long q3)] below meth c ({ frames := 1, cells := 0, slots := 0, locals := 12 } : Room).cells ({ frames := 1, cells := 0, slots := 0, locals := 12 } : Room).slots (fun v h L => v = none ∧ Fr n0 L ∧ Keep h0 h [r0] ∧ Exa Z h r0 "com/example/qbvious/qbvious/model/Figures" ∧ Fld Z h r0 "com/example/qbvious/qbvious/model/Figures" "unscheduled" "J" (.long q1) ∧ Fld Z h r0 "com/example/qbvious/qbvious/model/Figures" "excessQueues" "J" (.long q2) ∧ Fld Z h r0 "com/example/qbvious/qbvious/model/Figures" "extraLatencyNs" "J" (.long q3)) T1 (mkF m 4 #[.val (.ref r0), .val (.long q1), .second, .val (.long q2), .second, .val (.long q3), .second] [])
  refine EKit.aloadN X1 hx rfl rfl (hb hby d1_4) (q := 5) rfl ?_
  refine EKit.lloadN X1 hx rfl (hb hby d1_5) (q := 6) rfl ?_
  obtain ⟨T2, h2, X2, e2, W2, st2⟩ := putF X1 hx hZ hown (host := "") (Or.inl (hw _ (List.mem_of_getElem? (i := 9) rfl))) Via.refl e1 F_unscheduled_r0 E_r0 (Or.inr ⟨(hw _ (List.mem_of_getElem? (i := 10) rfl)), rfl, hnm⟩) (hw _ (List.mem_of_getElem? (i := 1) rfl)) (ty := .long) (by decide) rfl rfl (g := (mkF m 6 #[.val (.ref r0), .val (.long q1), .second, .val (.long q2), .second, .val (.long q3), .second] [(.long q1), (.ref r0)])) rfl rfl (hb hby d1_6)
  have fE_r0_2 := E_r0.wr W2
  have fF_r0_unscheduled_2 := F_unscheduled_r0.same W2
  have fF_r0_excessQueues_2 := F_excessQueues_r0.other W2 (Or.inr (slot_ne (Or.inr (hw _ (List.mem_of_getElem? (i := 12) rfl))) (Or.inr (hw _ (List.mem_of_getElem? (i := 10) rfl))) (by decide) (t := .long) (t' := .long) (by decide) (by decide)))
  have fF_r0_extraLatencyNs_2 := F_extraLatencyNs_r0.other W2 (Or.inr (slot_ne (Or.inr (hw _ (List.mem_of_getElem? (i := 14) rfl))) (Or.inr (hw _ (List.mem_of_getElem? (i := 10) rfl))) (by decide) (t := .long) (t' := .long) (by decide) (by decide)))
  have K2 : Keep h0 h2 [r0] := (Keep.refl _ _).wr W2 (Or.inl (List.mem_of_getElem? (i := 0) rfl))
  have N2 := Fr.snoc X2 (Fr.nil _) gn_r0
  have sz2 : h0.size ≤ h2.size := Nat.le_trans (Nat.le_refl _) (Keep.of_wr W2).1
  refine EKit.step st2 ?_
  show EKit.Ends p l e ({ frames := 1, cells := 0, slots := 0, locals := 12 } : Room) s m #[(.ref r0), (.long q1), (.long q2), (.long q3)] below meth c ({ frames := 1, cells := 0, slots := 0, locals := 12 } : Room).cells ({ frames := 1, cells := 0, slots := 0, locals := 12 } : Room).slots (fun v h L => v = none ∧ Fr n0 L ∧ Keep h0 h [r0] ∧ Exa Z h r0 "com/example/qbvious/qbvious/model/Figures" ∧ Fld Z h r0 "com/example/qbvious/qbvious/model/Figures" "unscheduled" "J" (.long q1) ∧ Fld Z h r0 "com/example/qbvious/qbvious/model/Figures" "excessQueues" "J" (.long q2) ∧ Fld Z h r0 "com/example/qbvious/qbvious/model/Figures" "extraLatencyNs" "J" (.long q3)) T2 (mkF m 9 #[.val (.ref r0), .val (.long q1), .second, .val (.long q2), .second, .val (.long q3), .second] [])
  refine EKit.aloadN X2 hx rfl rfl (hb hby d1_9) (q := 10) rfl ?_
  refine EKit.lloadN X2 hx rfl (hb hby d1_10) (q := 11) rfl ?_
  obtain ⟨T3, h3, X3, e3, W3, st3⟩ := putF X2 hx hZ hown (host := "") (Or.inl (hw _ (List.mem_of_getElem? (i := 11) rfl))) Via.refl e2 fF_r0_excessQueues_2 fE_r0_2 (Or.inr ⟨(hw _ (List.mem_of_getElem? (i := 12) rfl)), rfl, hnm⟩) (hw _ (List.mem_of_getElem? (i := 1) rfl)) (ty := .long) (by decide) rfl rfl (g := (mkF m 11 #[.val (.ref r0), .val (.long q1), .second, .val (.long q2), .second, .val (.long q3), .second] [(.long q2), (.ref r0)])) rfl rfl (hb hby d1_11)
  have fE_r0_3 := fE_r0_2.wr W3
  have fF_r0_unscheduled_3 := fF_r0_unscheduled_2.other W3 (Or.inr (slot_ne (Or.inr (hw _ (List.mem_of_getElem? (i := 10) rfl))) (Or.inr (hw _ (List.mem_of_getElem? (i := 12) rfl))) (by decide) (t := .long) (t' := .long) (by decide) (by decide)))
  have fF_r0_excessQueues_3 := fF_r0_excessQueues_2.same W3
  have fF_r0_extraLatencyNs_3 := fF_r0_extraLatencyNs_2.other W3 (Or.inr (slot_ne (Or.inr (hw _ (List.mem_of_getElem? (i := 14) rfl))) (Or.inr (hw _ (List.mem_of_getElem? (i := 12) rfl))) (by decide) (t := .long) (t' := .long) (by decide) (by decide)))
  have K3 : Keep h0 h3 [r0] := (K2).wr W3 (Or.inl (List.mem_of_getElem? (i := 0) rfl))
  have N3 := Fr.snoc X3 N2 gn_r0
  have sz3 : h0.size ≤ h3.size := Nat.le_trans sz2 (Keep.of_wr W3).1
  refine EKit.step st3 ?_
  show EKit.Ends p l e ({ frames := 1, cells := 0, slots := 0, locals := 12 } : Room) s m #[(.ref r0), (.long q1), (.long q2), (.long q3)] below meth c ({ frames := 1, cells := 0, slots := 0, locals := 12 } : Room).cells ({ frames := 1, cells := 0, slots := 0, locals := 12 } : Room).slots (fun v h L => v = none ∧ Fr n0 L ∧ Keep h0 h [r0] ∧ Exa Z h r0 "com/example/qbvious/qbvious/model/Figures" ∧ Fld Z h r0 "com/example/qbvious/qbvious/model/Figures" "unscheduled" "J" (.long q1) ∧ Fld Z h r0 "com/example/qbvious/qbvious/model/Figures" "excessQueues" "J" (.long q2) ∧ Fld Z h r0 "com/example/qbvious/qbvious/model/Figures" "extraLatencyNs" "J" (.long q3)) T3 (mkF m 14 #[.val (.ref r0), .val (.long q1), .second, .val (.long q2), .second, .val (.long q3), .second] [])
  refine EKit.aloadN X3 hx rfl rfl (hb hby d1_14) (q := 15) rfl ?_
  refine EKit.lload X3 hx rfl (hb hby d1_15) (q := 17) rfl ?_
  obtain ⟨T4, h4, X4, e4, W4, st4⟩ := putF X3 hx hZ hown (host := "") (Or.inl (hw _ (List.mem_of_getElem? (i := 13) rfl))) Via.refl e3 fF_r0_extraLatencyNs_3 fE_r0_3 (Or.inr ⟨(hw _ (List.mem_of_getElem? (i := 14) rfl)), rfl, hnm⟩) (hw _ (List.mem_of_getElem? (i := 1) rfl)) (ty := .long) (by decide) rfl rfl (g := (mkF m 17 #[.val (.ref r0), .val (.long q1), .second, .val (.long q2), .second, .val (.long q3), .second] [(.long q3), (.ref r0)])) rfl rfl (hb hby d1_17)
  have fE_r0_4 := fE_r0_3.wr W4
  have fF_r0_unscheduled_4 := fF_r0_unscheduled_3.other W4 (Or.inr (slot_ne (Or.inr (hw _ (List.mem_of_getElem? (i := 10) rfl))) (Or.inr (hw _ (List.mem_of_getElem? (i := 14) rfl))) (by decide) (t := .long) (t' := .long) (by decide) (by decide)))
  have fF_r0_excessQueues_4 := fF_r0_excessQueues_3.other W4 (Or.inr (slot_ne (Or.inr (hw _ (List.mem_of_getElem? (i := 12) rfl))) (Or.inr (hw _ (List.mem_of_getElem? (i := 14) rfl))) (by decide) (t := .long) (t' := .long) (by decide) (by decide)))
  have fF_r0_extraLatencyNs_4 := fF_r0_extraLatencyNs_3.same W4
  have K4 : Keep h0 h4 [r0] := (K3).wr W4 (Or.inl (List.mem_of_getElem? (i := 0) rfl))
  have N4 := Fr.snoc X4 N3 gn_r0
  have sz4 : h0.size ≤ h4.size := Nat.le_trans sz3 (Keep.of_wr W4).1
  refine EKit.step st4 ?_
  show EKit.Ends p l e ({ frames := 1, cells := 0, slots := 0, locals := 12 } : Room) s m #[(.ref r0), (.long q1), (.long q2), (.long q3)] below meth c ({ frames := 1, cells := 0, slots := 0, locals := 12 } : Room).cells ({ frames := 1, cells := 0, slots := 0, locals := 12 } : Room).slots (fun v h L => v = none ∧ Fr n0 L ∧ Keep h0 h [r0] ∧ Exa Z h r0 "com/example/qbvious/qbvious/model/Figures" ∧ Fld Z h r0 "com/example/qbvious/qbvious/model/Figures" "unscheduled" "J" (.long q1) ∧ Fld Z h r0 "com/example/qbvious/qbvious/model/Figures" "excessQueues" "J" (.long q2) ∧ Fld Z h r0 "com/example/qbvious/qbvious/model/Figures" "extraLatencyNs" "J" (.long q3)) T4 (mkF m 20 #[.val (.ref r0), .val (.long q1), .second, .val (.long q2), .second, .val (.long q3), .second] [])
  exact EKit.retV X4 hx hret (hb hby d1_20) (by rw [e4]; exact ⟨rfl, N4, K4, fE_r0_4, fF_r0_unscheduled_4, fF_r0_excessQueues_4, fF_r0_extraLatencyNs_4⟩) (by decide) (by decide)
theorem ef_rm6 (m : MethodId) (x0 : Addr) : entryFrame m #[(.ref x0)] 1 = mkF m 0 #[.val (.ref x0)] [] := by first | (simp [entryFrame, mkF, argsToLocals, Value.category]; done) | rfl
theorem pn_java_lang_Number : plainName "java/lang/Number" = true := by first | (simp [plainName, overriddenIn]; done) | decide +kernel
theorem d6_0 : decode jdk_18_method_1_code 0 = .ok (.aload_n 0, 1) := by decide +kernel
theorem d6_1 : decode jdk_18_method_1_code 1 = .ok (.invokespecial 1, 3) := by decide +kernel
theorem d6_4 : decode jdk_18_method_1_code 4 = .ok (.return_, 1) := by decide +kernel
set_option maxRecDepth 65536 in
set_option maxHeartbeats 40000000 in
theorem rm6 (l : Launch) (Z : State) (a0 : Array Value) (hw : ∀ d ∈ tables_1, d.before a0 Z = true) (ws : List Jvm.Cond) (r0 : Addr) (h0 : Heap)  :
    Pays l Z (⟨"java/lang/Number", "<init>", "()V"⟩ : MethodName) jdk_18_method_1_code 1 none ws ({ frames := 1, cells := 0, slots := 0, locals := 12 } : Room) #[(.ref r0)] h0 (RetQ none h0) := by
  refine EKit.pays (plainFor_of_name pn_java_lang_Number) (fun m => ef_rm6 m r0) ?_
  intro p e s m below meth c s₁ hx hby hml hZ hown hnm hret X0 e0 hs0
  refine EKit.aloadN X0 hx rfl rfl (hb hby d6_0) (q := 1) rfl ?_
  obtain ⟨T1, X1, e1, st1⟩ := initO X0 hx hZ hown (hw _ (List.mem_of_getElem? (i := 38) rfl)) (hw _ (List.mem_of_getElem? (i := 7) rfl)) (hw _ (List.mem_of_getElem? (i := 8) rfl)) e0 (g := (mkF m 1 #[.val (.ref r0)] [(.ref r0)])) rfl (by rw [hml]; rfl) rfl (hb hby d6_1) (by decide) (W := 0) (by show 2 * 0 + _ ≤ _; exact Nat.le_of_eq rfl) (by decide)
  refine EKit.step st1 ?_
  show EKit.Ends p l e ({ frames := 1, cells := 0, slots := 0, locals := 12 } : Room) s m #[(.ref r0)] below meth c ({ frames := 1, cells := 0, slots := 0, locals := 12 } : Room).cells ({ frames := 1, cells := 0, slots := 0, locals := 12 } : Room).slots (RetQ none h0) T1 (mkF m 4 #[.val (.ref r0)] [])
  exact EKit.retV X1 hx hret (hb hby d6_4) (⟨rfl, e1, rfl⟩) (by decide) (by decide)
theorem ef_rm5 (m : MethodId) (x0 : Addr) (x1 : Int64) : entryFrame m #[(.ref x0), (.long x1)] 3 = mkF m 0 #[.val (.ref x0), .val (.long x1), .second] [] := by first | (simp [entryFrame, mkF, argsToLocals, Value.category]; done) | rfl
theorem pn_java_lang_Long : plainName "java/lang/Long" = true := by first | (simp [plainName, overriddenIn]; done) | decide +kernel
theorem d5_0 : decode jdk_35_method_26_code 0 = .ok (.aload_n 0, 1) := by decide +kernel
theorem d5_1 : decode jdk_35_method_26_code 1 = .ok (.invokespecial 270, 3) := by decide +kernel
theorem pd___V : parseMethodDescriptor "()V" = some ⟨[], none⟩ := by decide +kernel
theorem d5_4 : decode jdk_35_method_26_code 4 = .ok (.aload_n 0, 1) := by decide +kernel
theorem d5_5 : decode jdk_35_method_26_code 5 = .ok (.lload_n 1, 1) := by decide +kernel
theorem d5_6 : decode jdk_35_method_26_code 6 = .ok (.putfield 273, 3) := by decide +kernel
theorem d5_9 : decode jdk_35_method_26_code 9 = .ok (.return_, 1) := by decide +kernel
set_option maxRecDepth 65536 in
set_option maxHeartbeats 40000000 in
theorem rm5 (l : Launch) (Z : State) (a0 : Array Value) (hw : ∀ d ∈ tables_1, d.before a0 Z = true) (ws : List Jvm.Cond) (r0 : Addr) (q1 : Int64) (h0 : Heap) (n0 : Nat) (gn_r0 : n0 ≤ r0) (E_r0 : Exa Z h0 r0 "java/lang/Long") (F_value_r0 : Fld Z h0 r0 "java/lang/Long" "value" "J" (.long (0 : Int64))) :
    Pays l Z (⟨"java/lang/Long", "<init>", "(J)V"⟩ : MethodName) jdk_35_method_26_code 3 none ws ({ frames := 2, cells := 0, slots := 0, locals := 24 } : Room) #[(.ref r0), (.long q1)] h0 (fun v h L => v = none ∧ Fr n0 L ∧ Keep h0 h [r0] ∧ Exa Z h r0 "java/lang/Long" ∧ Fld Z h r0 "java/lang/Long" "value" "J" (.long q1)) := by
  refine EKit.pays (plainFor_of_name pn_java_lang_Long) (fun m => ef_rm5 m r0 q1) ?_
  intro p e s m below meth c s₁ hx hby hml hZ hown hnm hret X0 e0 hs0
  refine EKit.aloadN X0 hx rfl rfl (hb hby d5_0) (q := 1) rfl ?_
  refine EKit.callI X0 hx hZ hown e0 (y := (⟨"java/lang/Number", "<init>", "()V"⟩ : MethodName)) rfl (hw _ (List.mem_of_getElem? (i := 32) rfl)) (hw _ (List.mem_of_getElem? (i := 33) rfl)) (hw _ (List.mem_of_getElem? (i := 36) rfl)) (hw _ (List.mem_of_getElem? (i := 37) rfl)) (by decide) (a := r0) (argsL := []) (rm6 l Z a0 hw [] r0 h0) (rest := []) (by rw [hml]; rfl) pd___V rfl (W := 0) (Nat.le_of_eq rfl) (by decide) (by decide) (by decide) (by decide) rfl (hb hby d5_1) (q := 4) rfl ?_
  intro T1 v1 L1 X1 hQ1
  obtain ⟨X1, e1, ev1⟩ := EKit.pureK X1 hQ1
  subst ev1
  show EKit.Ends p l e ({ frames := 2, cells := 0, slots := 0, locals := 24 } : Room) s m #[(.ref r0), (.long q1)] below meth c ({ frames := 2, cells := 0, slots := 0, locals := 24 } : Room).cells ({ frames := 2, cells := 0, slots := 0, locals := 24 } : Room).slots (fun v h L => v = none ∧ Fr n0 L ∧ Keep h0 h [r0] ∧ Exa Z h r0 "java/lang/Long" ∧ Fld Z h r0 "java/lang/Long" "value" "J" (.long q1)) T1 (mkF m 4 #[.val (.ref r0), .val (.long q1), .second] [])
  refine EKit.aloadN X1 hx rfl rfl (hb hby d5_4) (q := 5) rfl ?_
  refine EKit.lloadN X1 hx rfl (hb hby d5_5) (q := 6) rfl ?_
  obtain ⟨T2, h2, X2, e2, W2, st2⟩ := putF X1 hx hZ hown (host := "") (Or.inl (hw _ (List.mem_of_getElem? (i := 39) rfl))) Via.refl e1 F_value_r0 E_r0 (Or.inr ⟨(hw _ (List.mem_of_getElem? (i := 40) rfl)), rfl, hnm⟩) (hw _ (List.mem_of_getElem? (i := 27) rfl)) (ty := .long) (by decide) rfl rfl (g := (mkF m 6 #[.val (.ref r0), .val (.long q1), .second] [(.long q1), (.ref r0)])) rfl rfl (hb hby d5_6)
  have fE_r0_2 := E_r0.wr W2
  have fF_r0_value_2 := F_value_r0.same W2
  have K2 : Keep h0 h2 [r0] := (Keep.refl _ _).wr W2 (Or.inl (List.mem_of_getElem? (i := 0) rfl))
  have N2 := Fr.snoc X2 (Fr.nil _) gn_r0
  have sz2 : h0.size ≤ h2.size := Nat.le_trans (Nat.le_refl _) (Keep.of_wr W2).1
  refine EKit.step st2 ?_
  show EKit.Ends p l e ({ frames := 2, cells := 0, slots := 0, locals := 24 } : Room) s m #[(.ref r0), (.long q1)] below meth c ({ frames := 2, cells := 0, slots := 0, locals := 24 } : Room).cells ({ frames := 2, cells := 0, slots := 0, locals := 24 } : Room).slots (fun v h L => v = none ∧ Fr n0 L ∧ Keep h0 h [r0] ∧ Exa Z h r0 "java/lang/Long" ∧ Fld Z h r0 "java/lang/Long" "value" "J" (.long q1)) T2 (mkF m 9 #[.val (.ref r0), .val (.long q1), .second] [])
  exact EKit.retV X2 hx hret (hb hby d5_9) (by rw [e2]; exact ⟨rfl, N2, K2, fE_r0_2, fF_r0_value_2⟩) (by decide) (by decide)
theorem own_ix (q : Int64) (h1 : ¬ q < -128) (h2 : ¬ 127 < q) : ¬ (q.toInt32 + 128 < 0) ∧ q.toInt32 + 128 < 256 := by
  rw [Int64.lt_iff_toInt_lt] at h1 h2
  rw [show (-128 : Int64).toInt = -128 from rfl] at h1
  rw [show (127 : Int64).toInt = 127 from rfl] at h2
  have e1 := c_l2i q; have r1 := rng32 q.toInt32
  have e2 := c_iadd q.toInt32 128; have r2 := rng32 (q.toInt32 + 128)
  rw [show (128 : Int32).toInt = 128 from rfl] at e2
  rw [Int32.lt_iff_toInt_lt, Int32.lt_iff_toInt_lt, show (0 : Int32).toInt = 0 from rfl, show (256 : Int32).toInt = 256 from rfl]
  omega
theorem ef_rm4 (m : MethodId) (x0 : Int64) : entryFrame m #[(.long x0)] 3 = mkF m 0 #[.val (.long x0), .second, .unset] [] := by first | (simp [entryFrame, mkF, argsToLocals, Value.category]; done) | rfl
theorem d4_0 : decode jdk_35_method_24_code 0 = .ok (.sipush 128, 3) := by decide +kernel
theorem d4_3 : decode jdk_35_method_24_code 3 = .ok (.istore_n 2, 1) := by decide +kernel
theorem d4_4 : decode jdk_35_method_24_code 4 = .ok (.lload_n 0, 1) := by decide +kernel
theorem d4_5 : decode jdk_35_method_24_code 5 = .ok (.ldc2_w 230, 3) := by decide +kernel
theorem d4_8 : decode jdk_35_method_24_code 8 = .ok (.lcmp, 1) := by decide +kernel
theorem d4_9 : decode jdk_35_method_24_code 9 = .ok (.ifCond .lt 22, 3) := by decide +kernel
theorem d4_31 : decode jdk_35_method_24_code 31 = .ok (.new 1, 3) := by decide +kernel
theorem d4_34 : decode jdk_35_method_24_code 34 = .ok (.dup, 1) := by decide +kernel
theorem d4_35 : decode jdk_35_method_24_code 35 = .ok (.lload_n 0, 1) := by decide +kernel
theorem d4_36 : decode jdk_35_method_24_code 36 = .ok (.invokespecial 240, 3) := by decide +kernel
theorem pd__J_V : parseMethodDescriptor "(J)V" = some ⟨[.long], none⟩ := by decide +kernel
theorem d4_39 : decode jdk_35_method_24_code 39 = .ok (.areturn, 1) := by decide +kernel
theorem d4_12 : decode jdk_35_method_24_code 12 = .ok (.lload_n 0, 1) := by decide +kernel
theorem d4_13 : decode jdk_35_method_24_code 13 = .ok (.ldc2_w 232, 3) := by decide +kernel
theorem d4_16 : decode jdk_35_method_24_code 16 = .ok (.lcmp, 1) := by decide +kernel
theorem d4_17 : decode jdk_35_method_24_code 17 = .ok (.ifCond .gt 14, 3) := by decide +kernel
theorem d4_20 : decode jdk_35_method_24_code 20 = .ok (.getstatic 234, 3) := by decide +kernel
theorem d4_23 : decode jdk_35_method_24_code 23 = .ok (.lload_n 0, 1) := by decide +kernel
theorem d4_24 : decode jdk_35_method_24_code 24 = .ok (.l2i, 1) := by decide +kernel
theorem d4_25 : decode jdk_35_method_24_code 25 = .ok (.sipush 128, 3) := by decide +kernel
theorem d4_28 : decode jdk_35_method_24_code 28 = .ok (.iadd, 1) := by decide +kernel
theorem d4_29 : decode jdk_35_method_24_code 29 = .ok (.aaload, 1) := by decide +kernel
theorem d4_30 : decode jdk_35_method_24_code 30 = .ok (.areturn, 1) := by decide +kernel
set_option maxRecDepth 65536 in
set_option maxHeartbeats 40000000 in
theorem rm4 (l : Launch) (Z : State) (a0 : Array Value) (hw : ∀ d ∈ tables_1, d.before a0 Z = true) (ws : List Jvm.Cond) (q0 : Int64) (h0 : Heap)  (w_C : Addr) (kk : ClassId) (gC : Int32 → Addr) (S_C : Sta Z h0 "java/lang/Long$LongCache" "cache" "[Ljava/lang/Long;" (.ref w_C)) (A_C : Ary Z h0 w_C kk (.object "java/lang/Long") (256 : Int32) (fun j => .ref (gC j))) (H_C : ∀ j : Int32, ¬ j < 0 → j < 256 → Exa Z h0 (gC j) "java/lang/Long") :
    Pays l Z (⟨"java/lang/Long", "valueOf", "(J)Ljava/lang/Long;"⟩ : MethodName) jdk_35_method_24_code 3 (some (.object "java/lang/Long")) ws ({ frames := 3, cells := 1, slots := 1, locals := 39 } : Room) #[(.long q0)] h0 (fun v h L => ∃ a : Addr, v = some (.ref a) ∧ Exa Z h a "java/lang/Long" ∧ Ext h0 h ∧ L = []) := by
  refine EKit.pays (plainFor_of_name pn_java_lang_Long) (fun m => ef_rm4 m q0) ?_
  intro p e s m below meth c s₁ hx hby hml hZ hown hnm hret X0 e0 hs0
  refine EKit.sipush X0 hx (v := (128 : Int32)) rfl (hb hby d4_0) (q := 3) rfl ?_
  refine EKit.istoreN X0 hx (l' := #[.val (.long q0), .second, .val (.int (128 : Int32))]) rfl (hb hby d4_3) (q := 4) rfl ?_
  refine EKit.lloadN X0 hx rfl (hb hby d4_4) (q := 5) rfl ?_
  refine EKit.ldc2Long X0 hx hZ hown (hw _ (List.mem_of_getElem? (i := 24) rfl)) (hb hby d4_5) (q := 8) rfl ?_
  refine EKit.lcmp X0 hx  (hb hby d4_8) (q := 9) rfl ?_
  by_cases h9 : q0 < (-128 : Int64)
  · skip
    refine EKit.ifYes X0 hx (EKit.c_t (tlt (EKit.l_t h9)).1) (hb hby d4_9) (by decide) (q := 31) (by decide) ?_
    obtain ⟨T1, h1, X1, e1, E1, A1, D1, -, st1⟩ := newO X0 hx hZ hown (hw _ (List.mem_of_getElem? (i := 26) rfl)) (hw _ (List.mem_of_getElem? (i := 27) rfl)) (hw _ (List.mem_of_getElem? (i := 22) rfl)) e0 (g := (mkF m 31 #[.val (.long q0), .second, .val (.int (128 : Int32))] [])) rfl (hb hby d4_31) (by decide) (by decide)
    obtain ⟨b1, g1⟩ : ∃ z, z = h0.size := ⟨_, rfl⟩
    rw [← g1] at A1 D1 st1
    have gn_b1 : h0.size ≤ b1 := Nat.le_trans (Nat.le_refl _) (Nat.le_of_eq g1.symm)
    have sz1 : h0.size ≤ h1.size := Nat.le_trans (Nat.le_refl _) E1.1
    have F_value_b1 : Fld Z h1 b1 "java/lang/Long" "value" "J" (.long (0 : Int64)) := D1 (Or.inr (hw _ (List.mem_of_getElem? (i := 40) rfl))) (ty := .long) (by decide)
    have EX1 := E1
    refine EKit.step st1 ?_
    show EKit.Ends p l e ({ frames := 3, cells := 1, slots := 1, locals := 39 } : Room) s m #[(.long q0)] below meth c ({ frames := 3, cells := 1, slots := 1, locals := 39 } : Room).cells ({ frames := 3, cells := 1, slots := 1, locals := 39 } : Room).slots (fun v h L => ∃ a : Addr, v = some (.ref a) ∧ Exa Z h a "java/lang/Long" ∧ Ext h0 h ∧ L = []) T1 (mkF m 34 #[.val (.long q0), .second, .val (.int (128 : Int32))] [(.ref b1)])
    refine EKit.dup X1 hx rfl (hb hby d4_34) (q := 35) rfl ?_
    refine EKit.lloadN X1 hx rfl (hb hby d4_35) (q := 36) rfl ?_
    refine EKit.callI X1 hx hZ hown e1 (y := (⟨"java/lang/Long", "<init>", "(J)V"⟩ : MethodName)) rfl (hw _ (List.mem_of_getElem? (i := 28) rfl)) (hw _ (List.mem_of_getElem? (i := 29) rfl)) (hw _ (List.mem_of_getElem? (i := 22) rfl)) (hw _ (List.mem_of_getElem? (i := 31) rfl)) (by decide) (a := b1) (argsL := [(.long q0)]) (rm5 l Z a0 hw [] b1 q0 h1 h0.size gn_b1 A1 F_value_b1 ) (rest := [(.ref b1)]) (by rw [hml]; rfl) pd__J_V rfl (W := 1) (Nat.le_of_eq rfl) (by decide) (by decide) (by decide) (by decide) rfl (hb hby d4_36) (q := 39) rfl ?_
    intro T2 v2 L2 X2 hQ2
    obtain ⟨rfl, N2q, K2, Ea2, Fa2_value⟩ := hQ2
    have X2 := Stand.forget X2 (fun y hy => by rw [hs0]; exact N2q y hy)
    have sz2 : h0.size ≤ T2.heap.size := Nat.le_trans sz1 K2.1
    have fE_b1_2 := A1.keep K2
    have EX2 := EKit.Ext_keep EX1 K2 (allS gn_b1 all0)
    show EKit.Ends p l e ({ frames := 3, cells := 1, slots := 1, locals := 39 } : Room) s m #[(.long q0)] below meth c ({ frames := 3, cells := 1, slots := 1, locals := 39 } : Room).cells ({ frames := 3, cells := 1, slots := 1, locals := 39 } : Room).slots (fun v h L => ∃ a : Addr, v = some (.ref a) ∧ Exa Z h a "java/lang/Long" ∧ Ext h0 h ∧ L = []) T2 (mkF m 39 #[.val (.long q0), .second, .val (.int (128 : Int32))] [(.ref b1)])
    exact EKit.retA X2 hx hret rfl rfl rfl (hb hby d4_39) (by exact ⟨_, rfl, fE_b1_2, EX2, rfl⟩) (by decide) (by decide)
  · skip
    refine EKit.ifNo X0 hx (EKit.c_t (flt (EKit.l_f h9)).1) (hb hby d4_9) (q := 12) rfl ?_
    refine EKit.lloadN X0 hx rfl (hb hby d4_12) (q := 13) rfl ?_
    refine EKit.ldc2Long X0 hx hZ hown (hw _ (List.mem_of_getElem? (i := 25) rfl)) (hb hby d4_13) (q := 16) rfl ?_
    refine EKit.lcmp X0 hx  (hb hby d4_16) (q := 17) rfl ?_
    by_cases h17 : (127 : Int64) < q0
    · skip
      refine EKit.ifYes X0 hx (EKit.c_t (tlt (EKit.g_t h17)).2.2.1) (hb hby d4_17) (by decide) (q := 31) (by decide) ?_
      obtain ⟨T3, h3, X3, e3, E3, A3, D3, -, st3⟩ := newO X0 hx hZ hown (hw _ (List.mem_of_getElem? (i := 26) rfl)) (hw _ (List.mem_of_getElem? (i := 27) rfl)) (hw _ (List.mem_of_getElem? (i := 22) rfl)) e0 (g := (mkF m 31 #[.val (.long q0), .second, .val (.int (128 : Int32))] [])) rfl (hb hby d4_31) (by decide) (by decide)
      obtain ⟨b3, g3⟩ : ∃ z, z = h0.size := ⟨_, rfl⟩
      rw [← g3] at A3 D3 st3
      have gn_b3 : h0.size ≤ b3 := Nat.le_trans (Nat.le_refl _) (Nat.le_of_eq g3.symm)
      have sz3 : h0.size ≤ h3.size := Nat.le_trans (Nat.le_refl _) E3.1
      have F_value_b3 : Fld Z h3 b3 "java/lang/Long" "value" "J" (.long (0 : Int64)) := D3 (Or.inr (hw _ (List.mem_of_getElem? (i := 40) rfl))) (ty := .long) (by decide)
      have EX3 := E3
      refine EKit.step st3 ?_
      show EKit.Ends p l e ({ frames := 3, cells := 1, slots := 1, locals := 39 } : Room) s m #[(.long q0)] below meth c ({ frames := 3, cells := 1, slots := 1, locals := 39 } : Room).cells ({ frames := 3, cells := 1, slots := 1, locals := 39 } : Room).slots (fun v h L => ∃ a : Addr, v = some (.ref a) ∧ Exa Z h a "java/lang/Long" ∧ Ext h0 h ∧ L = []) T3 (mkF m 34 #[.val (.long q0), .second, .val (.int (128 : Int32))] [(.ref b3)])
      refine EKit.dup X3 hx rfl (hb hby d4_34) (q := 35) rfl ?_
      refine EKit.lloadN X3 hx rfl (hb hby d4_35) (q := 36) rfl ?_
      refine EKit.callI X3 hx hZ hown e3 (y := (⟨"java/lang/Long", "<init>", "(J)V"⟩ : MethodName)) rfl (hw _ (List.mem_of_getElem? (i := 28) rfl)) (hw _ (List.mem_of_getElem? (i := 29) rfl)) (hw _ (List.mem_of_getElem? (i := 22) rfl)) (hw _ (List.mem_of_getElem? (i := 31) rfl)) (by decide) (a := b3) (argsL := [(.long q0)]) (rm5 l Z a0 hw [] b3 q0 h3 h0.size gn_b3 A3 F_value_b3 ) (rest := [(.ref b3)]) (by rw [hml]; rfl) pd__J_V rfl (W := 1) (Nat.le_of_eq rfl) (by decide) (by decide) (by decide) (by decide) rfl (hb hby d4_36) (q := 39) rfl ?_
      intro T4 v4 L4 X4 hQ4
      obtain ⟨rfl, N4q, K4, Ea4, Fa4_value⟩ := hQ4
      have X4 := Stand.forget X4 (fun y hy => by rw [hs0]; exact N4q y hy)
      have sz4 : h0.size ≤ T4.heap.size := Nat.le_trans sz3 K4.1
      have fE_b3_4 := A3.keep K4
      have EX4 := EKit.Ext_keep EX3 K4 (allS gn_b3 all0)
      show EKit.Ends p l e ({ frames := 3, cells := 1, slots := 1, locals := 39 } : Room) s m #[(.long q0)] below meth c ({ frames := 3, cells := 1, slots := 1, locals := 39 } : Room).cells ({ frames := 3, cells := 1, slots := 1, locals := 39 } : Room).slots (fun v h L => ∃ a : Addr, v = some (.ref a) ∧ Exa Z h a "java/lang/Long" ∧ Ext h0 h ∧ L = []) T4 (mkF m 39 #[.val (.long q0), .second, .val (.int (128 : Int32))] [(.ref b3)])
      exact EKit.retA X4 hx hret rfl rfl rfl (hb hby d4_39) (by exact ⟨_, rfl, fE_b3_4, EX4, rfl⟩) (by decide) (by decide)
    · skip
      refine EKit.ifNo X0 hx (EKit.c_t (flt (EKit.g_f h17)).2.2.1) (hb hby d4_17) (q := 20) rfl ?_
      obtain ⟨T5, X5, e5, st5⟩ := getS X0 hx hZ (host := "") hown (hw _ (List.mem_of_getElem? (i := 46) rfl)) Via.refl e0 S_C (g := (mkF m 20 #[.val (.long q0), .second, .val (.int (128 : Int32))] [])) rfl (hb hby d4_20)
      refine EKit.step st5 ?_
      show EKit.Ends p l e ({ frames := 3, cells := 1, slots := 1, locals := 39 } : Room) s m #[(.long q0)] below meth c ({ frames := 3, cells := 1, slots := 1, locals := 39 } : Room).cells ({ frames := 3, cells := 1, slots := 1, locals := 39 } : Room).slots (fun v h L => ∃ a : Addr, v = some (.ref a) ∧ Exa Z h a "java/lang/Long" ∧ Ext h0 h ∧ L = []) T5 (mkF m 23 #[.val (.long q0), .second, .val (.int (128 : Int32))] [(.ref w_C)])
      refine EKit.lloadN X5 hx rfl (hb hby d4_23) (q := 24) rfl ?_
      refine EKit.l2i X5 hx  (hb hby d4_24) (q := 25) rfl ?_
      refine EKit.sipush X5 hx (v := (128 : Int32)) rfl (hb hby d4_25) (q := 28) rfl ?_
      refine EKit.iadd X5 hx  (hb hby d4_28) (q := 29) rfl ?_
      refine EKit.aaload X5 hx hZ e5 rfl A_C (own_ix q0 h9 h17).1 (own_ix q0 h9 h17).2 (v := (.ref (gC ((q0.toInt32) + (128 : Int32))))) rfl (hb hby d4_29) (q := 30) rfl ?_
      exact EKit.retA X5 hx hret rfl rfl rfl (hb hby d4_30) (by rw [e5]; exact ⟨_, rfl, H_C _ (own_ix q0 h9 h17).1 (own_ix q0 h9 h17).2, ⟨Nat.le_refl _, fun _ _ z => z⟩, rfl⟩) (by decide) (by decide)
theorem own_no {Z : State} {a0 : Array Value} (hw : ∀ d ∈ tables_1, d.before a0 Z = true) : ∃ c t, Z.vm.findClass "java/lang/Long" = some c ∧ Z.vm.findClass "com/example/qbvious/qbvious/model/Figures" = some t ∧ Z.vm.assignable c t = false := by
  obtain ⟨t, kt, t1, t2, t3, t4, -⟩ := Cond.instantiable_spec (hw _ (List.mem_of_getElem? (i := 1) rfl))
  have t5 : kt.isInterface = false := (Bool.or_eq_false_iff.mp t4).1
  have wS := (hw _ (List.mem_of_getElem? (i := 42) rfl))
  have wN := (hw _ (List.mem_of_getElem? (i := 43) rfl))
  obtain ⟨cO, kO, o1, o2, o3, -, -⟩ := Cond.noSuperclass_spec (hw _ (List.mem_of_getElem? (i := 44) rfl))
  obtain ⟨cL, hL⟩ := found_sup wS
  obtain ⟨cN, hN⟩ := found_sup wN
  obtain ⟨p1, kL, kp1, l1, l2, l3, l4, l5, -, -⟩ := Cond.superclass_spec hL wS
  obtain ⟨p2, kN, kp2, n1, n2, n3, n4, -, -, -⟩ := Cond.superclass_spec hN wN
  cases l1.symm.trans hN
  cases n1.symm.trans o1
  have d1 := ids_ne hL t1 (by decide)
  have d2 := ids_ne hN t1 (by decide)
  have d3 := ids_ne o1 t1 (by decide)
  have s3 : ∀ fuel, Z.vm.isSubclassAux fuel cO t = false := fun fuel => by cases fuel <;> simp [Vm.isSubclassAux, d3, o2, o3]
  have s2 : ∀ fuel, Z.vm.isSubclassAux fuel cN t = false := fun fuel => by cases fuel <;> simp [Vm.isSubclassAux, d2, n2, n4, s3]
  have s1 : ∀ fuel, Z.vm.isSubclassAux fuel cL t = false := fun fuel => by cases fuel <;> simp [Vm.isSubclassAux, d1, l2, l4, s2]
  refine ⟨cL, t, hL, t1, ?_⟩
  show Z.vm.assignableAux (255 + 1) cL t = false
  simp [Vm.assignableAux, d1, l2, t2, l5, t3, t5, Vm.isSubclass, s1]
theorem ef_rmA (m : MethodId) (x0 : Addr) (x1 : Addr) : entryFrame m #[(.ref x0), (.ref x1)] 3 = mkF m 0 #[.val (.ref x0), .val (.ref x1), .unset] [] := by first | (simp [entryFrame, mkF, argsToLocals, Value.category]; done) | rfl
theorem d3_0 : decode prog_25_method_5_code 0 = .ok (.aload_n 0, 1) := by decide +kernel
theorem d3_1 : decode prog_25_method_5_code 1 = .ok (.aload_n 1, 1) := by decide +kernel
theorem d3_2 : decode prog_25_method_5_code 2 = .ok (.if_acmp .ne 5, 3) := by decide +kernel
theorem d3_5 : decode prog_25_method_5_code 5 = .ok (.iconst 1, 1) := by decide +kernel
theorem d3_6 : decode prog_25_method_5_code 6 = .ok (.ireturn, 1) := by decide +kernel
set_option maxRecDepth 65536 in
set_option maxHeartbeats 40000000 in
theorem rmA (l : Launch) (Z : State) (a0 : Array Value) (hw : ∀ d ∈ tables_1, d.before a0 Z = true) (ws : List Jvm.Cond) (r0 : Addr) (h0 : Heap)  :
    Pays l Z (⟨"com/example/qbvious/qbvious/model/Figures", "equals", "(Ljava/lang/Object;)Z"⟩ : MethodName) prog_25_method_5_code 3 (some .boolean) ws ({ frames := 0, cells := 0, slots := 0, locals := 0 } : Room) #[(.ref r0), (.ref r0)] h0 (RetQ (some (.int (1 : Int32))) h0) := by
  refine EKit.pays (plainFor_of_name pn_com_example_qbvious_qbvious_model_Figures) (fun m => ef_rmA m r0 r0) ?_
  intro p e s m below meth c s₁ hx hby hml hZ hown hnm hret X0 e0 hs0
  refine EKit.aloadN X0 hx rfl rfl (hb hby d3_0) (q := 1) rfl ?_
  refine EKit.aloadN X0 hx rfl rfl (hb hby d3_1) (q := 2) rfl ?_
  have h2 : r0 = r0 := rfl
  refine EKit.acmp X0 hx rfl rfl (same := true) (EKit.rr_t h2) (hb hby d3_2) (by decide) (q := 5) (by decide) ?_
  refine EKit.iconst X0 hx (v := (1 : Int32)) rfl (hb hby d3_5) (q := 6) rfl ?_
  exact EKit.retZ X0 hx hret (by simp) (hb hby d3_6) (⟨rfl, e0, rfl⟩) (by decide) (by decide)
theorem ef_rmB (m : MethodId) (x0 : Addr) : entryFrame m #[(.ref x0), .null] 3 = mkF m 0 #[.val (.ref x0), .val .null, .unset] [] := by first | (simp [entryFrame, mkF, argsToLocals, Value.category]; done) | rfl
theorem d3_7 : decode prog_25_method_5_code 7 = .ok (.aload_n 1, 1) := by decide +kernel
theorem d3_8 : decode prog_25_method_5_code 8 = .ok (.instanceof 8, 3) := by decide +kernel
theorem d3_11 : decode prog_25_method_5_code 11 = .ok (.ifCond .ne 5, 3) := by decide +kernel
theorem d3_14 : decode prog_25_method_5_code 14 = .ok (.iconst 0, 1) := by decide +kernel
theorem d3_15 : decode prog_25_method_5_code 15 = .ok (.ireturn, 1) := by decide +kernel
set_option maxRecDepth 65536 in
set_option maxHeartbeats 40000000 in
theorem rmB (l : Launch) (Z : State) (a0 : Array Value) (hw : ∀ d ∈ tables_1, d.before a0 Z = true) (ws : List Jvm.Cond) (r0 : Addr) (h0 : Heap)  :
    Pays l Z (⟨"com/example/qbvious/qbvious/model/Figures", "equals", "(Ljava/lang/Object;)Z"⟩ : MethodName) prog_25_method_5_code 3 (some .boolean) ws ({ frames := 0, cells := 0, slots := 0, locals := 0 } : Room) #[(.ref r0), .null] h0 (RetQ (some (.int (0 : Int32))) h0) := by
  refine EKit.pays (plainFor_of_name pn_com_example_qbvious_qbvious_model_Figures) (fun m => ef_rmB m r0) ?_
  intro p e s m below meth c s₁ hx hby hml hZ hown hnm hret X0 e0 hs0
  refine EKit.aloadN X0 hx rfl rfl (hb hby d3_0) (q := 1) rfl ?_
  refine EKit.aloadN X0 hx rfl rfl (hb hby d3_1) (q := 2) rfl ?_
  have h2 : ¬ (((.ref r0) : Value) = .null) := nofun
  refine EKit.acmp X0 hx rfl rfl (same := false) (decide_eq_false h2) (hb hby d3_2) (by decide) (q := 7) (by decide) ?_
  refine EKit.aloadN X0 hx rfl rfl (hb hby d3_7) (q := 8) rfl ?_
  refine EKit.step (fun t h => X0.instanceofNull hx (g := (mkF m 8 #[.val (.ref r0), .val .null, .unset] [.null])) rfl rfl (hb hby d3_8) t h) ?_
  show EKit.Ends p l e ({ frames := 0, cells := 0, slots := 0, locals := 0 } : Room) s m #[(.ref r0), .null] below meth c ({ frames := 0, cells := 0, slots := 0, locals := 0 } : Room).cells ({ frames := 0, cells := 0, slots := 0, locals := 0 } : Room).slots (RetQ (some (.int (0 : Int32))) h0) s₁ (mkF m 11 #[.val (.ref r0), .val .null, .unset] [(.int (0 : Int32))])
  have h11 : (0 : Int32) = (0 : Int32) := by decide
  refine EKit.ifNo X0 hx (EKit.c_t (teq h11).2) (hb hby d3_11) (q := 14) rfl ?_
  refine EKit.iconst X0 hx (v := (0 : Int32)) rfl (hb hby d3_14) (q := 15) rfl ?_
  exact EKit.retZ X0 hx hret (by simp) (hb hby d3_15) (⟨rfl, e0, rfl⟩) (by decide) (by decide)
theorem ef_rmC (m : MethodId) (x0 : Addr) (x1 : Addr) : entryFrame m #[(.ref x0), (.ref x1)] 3 = mkF m 0 #[.val (.ref x0), .val (.ref x1), .unset] [] := by first | (simp [entryFrame, mkF, argsToLocals, Value.category]; done) | rfl
set_option maxRecDepth 65536 in
set_option maxHeartbeats 40000000 in
theorem rmC (l : Launch) (Z : State) (a0 : Array Value) (hw : ∀ d ∈ tables_1, d.before a0 Z = true) (ws : List Jvm.Cond) (r0 : Addr) (r1 : Addr) (h0 : Heap)  (E0 : Exa Z h0 r0 "com/example/qbvious/qbvious/model/Figures") (E1 : Exa Z h0 r1 "java/lang/Long") :
    Pays l Z (⟨"com/example/qbvious/qbvious/model/Figures", "equals", "(Ljava/lang/Object;)Z"⟩ : MethodName) prog_25_method_5_code 3 (some .boolean) ws ({ frames := 0, cells := 0, slots := 0, locals := 0 } : Room) #[(.ref r0), (.ref r1)] h0 (RetQ (some (.int (0 : Int32))) h0) := by
  refine EKit.pays (plainFor_of_name pn_com_example_qbvious_qbvious_model_Figures) (fun m => ef_rmC m r0 r1) ?_
  intro p e s m below meth c s₁ hx hby hml hZ hown hnm hret X0 e0 hs0
  refine EKit.aloadN X0 hx rfl rfl (hb hby d3_0) (q := 1) rfl ?_
  refine EKit.aloadN X0 hx rfl rfl (hb hby d3_1) (q := 2) rfl ?_
  have h2 : ¬ (r0 = r1) := ne_exa E0 E1 (by decide)
  refine EKit.acmp X0 hx rfl rfl (same := false) (EKit.rr_f h2) (hb hby d3_2) (by decide) (q := 7) (by decide) ?_
  refine EKit.aloadN X0 hx rfl rfl (hb hby d3_7) (q := 8) rfl ?_
  obtain ⟨T1, X1, e1, st1⟩ := instNo X0 hx hZ hown (hw _ (List.mem_of_getElem? (i := 41) rfl)) e0 E1 (own_no hw) (g := (mkF m 8 #[.val (.ref r0), .val (.ref r1), .unset] [(.ref r1)])) rfl rfl (hb hby d3_8)
  refine EKit.step st1 ?_
  show EKit.Ends p l e ({ frames := 0, cells := 0, slots := 0, locals := 0 } : Room) s m #[(.ref r0), (.ref r1)] below meth c ({ frames := 0, cells := 0, slots := 0, locals := 0 } : Room).cells ({ frames := 0, cells := 0, slots := 0, locals := 0 } : Room).slots (RetQ (some (.int (0 : Int32))) h0) T1 (mkF m 11 #[.val (.ref r0), .val (.ref r1), .unset] [(.int (0 : Int32))])
  have h11 : (0 : Int32) = (0 : Int32) := by decide
  refine EKit.ifNo X1 hx (EKit.c_t (teq h11).2) (hb hby d3_11) (q := 14) rfl ?_
  refine EKit.iconst X1 hx (v := (0 : Int32)) rfl (hb hby d3_14) (q := 15) rfl ?_
  exact EKit.retZ X1 hx hret (by simp) (hb hby d3_15) (⟨rfl, e1, rfl⟩) (by decide) (by decide)
def own_eqv (f1 f2 f3 g1 g2 g3 : Int64) : Int32 := if f1 = g1 then (if f2 = g2 then (if f3 = g3 then 1 else 0) else 0) else 0
theorem ef_rmD (m : MethodId) (x0 : Addr) (x1 : Addr) : entryFrame m #[(.ref x0), (.ref x1)] 3 = mkF m 0 #[.val (.ref x0), .val (.ref x1), .unset] [] := by first | (simp [entryFrame, mkF, argsToLocals, Value.category]; done) | rfl
theorem d3_16 : decode prog_25_method_5_code 16 = .ok (.aload_n 1, 1) := by decide +kernel
theorem d3_17 : decode prog_25_method_5_code 17 = .ok (.checkcast 8, 3) := by decide +kernel
theorem d3_20 : decode prog_25_method_5_code 20 = .ok (.astore_n 2, 1) := by decide +kernel
theorem d3_21 : decode prog_25_method_5_code 21 = .ok (.aload_n 0, 1) := by decide +kernel
theorem d3_22 : decode prog_25_method_5_code 22 = .ok (.getfield 7, 3) := by decide +kernel
theorem d3_25 : decode prog_25_method_5_code 25 = .ok (.aload_n 2, 1) := by decide +kernel
theorem d3_26 : decode prog_25_method_5_code 26 = .ok (.getfield 7, 3) := by decide +kernel
theorem d3_29 : decode prog_25_method_5_code 29 = .ok (.lcmp, 1) := by decide +kernel
theorem d3_30 : decode prog_25_method_5_code 30 = .ok (.ifCond .ne 31, 3) := by decide +kernel
theorem d3_33 : decode prog_25_method_5_code 33 = .ok (.aload_n 0, 1) := by decide +kernel
theorem d3_34 : decode prog_25_method_5_code 34 = .ok (.getfield 13, 3) := by decide +kernel
theorem d3_37 : decode prog_25_method_5_code 37 = .ok (.aload_n 2, 1) := by decide +kernel
theorem d3_38 : decode prog_25_method_5_code 38 = .ok (.getfield 13, 3) := by decide +kernel
theorem d3_41 : decode prog_25_method_5_code 41 = .ok (.lcmp, 1) := by decide +kernel
theorem d3_42 : decode prog_25_method_5_code 42 = .ok (.ifCond .ne 19, 3) := by decide +kernel
theorem d3_45 : decode prog_25_method_5_code 45 = .ok (.aload_n 0, 1) := by decide +kernel
theorem d3_46 : decode prog_25_method_5_code 46 = .ok (.getfield 16, 3) := by decide +kernel
theorem d3_49 : decode prog_25_method_5_code 49 = .ok (.aload_n 2, 1) := by decide +kernel
theorem d3_50 : decode prog_25_method_5_code 50 = .ok (.getfield 16, 3) := by decide +kernel
theorem d3_53 : decode prog_25_method_5_code 53 = .ok (.lcmp, 1) := by decide +kernel
theorem d3_54 : decode prog_25_method_5_code 54 = .ok (.ifCond .ne 7, 3) := by decide +kernel
theorem d3_57 : decode prog_25_method_5_code 57 = .ok (.iconst 1, 1) := by decide +kernel
theorem d3_58 : decode prog_25_method_5_code 58 = .ok (.goto 4, 3) := by decide +kernel
theorem d3_62 : decode prog_25_method_5_code 62 = .ok (.ireturn, 1) := by decide +kernel
theorem d3_61 : decode prog_25_method_5_code 61 = .ok (.iconst 0, 1) := by decide +kernel
set_option maxRecDepth 65536 in
set_option maxHeartbeats 40000000 in
theorem rmD (l : Launch) (Z : State) (a0 : Array Value) (hw : ∀ d ∈ tables_1, d.before a0 Z = true) (ws : List Jvm.Cond) (r0 : Addr) (r1 : Addr) (h0 : Heap)  (f1 f2 f3 g1 g2 g3 : Int64) (hne : ¬ r0 = r1) (E1 : Exa Z h0 r1 "com/example/qbvious/qbvious/model/Figures") (Fr00 : Fld Z h0 r0 "com/example/qbvious/qbvious/model/Figures" "unscheduled" "J" (.long f1)) (Fr01 : Fld Z h0 r0 "com/example/qbvious/qbvious/model/Figures" "excessQueues" "J" (.long f2)) (Fr02 : Fld Z h0 r0 "com/example/qbvious/qbvious/model/Figures" "extraLatencyNs" "J" (.long f3)) (Fr10 : Fld Z h0 r1 "com/example/qbvious/qbvious/model/Figures" "unscheduled" "J" (.long g1)) (Fr11 : Fld Z h0 r1 "com/example/qbvious/qbvious/model/Figures" "excessQueues" "J" (.long g2)) (Fr12 : Fld Z h0 r1 "com/example/qbvious/qbvious/model/Figures" "extraLatencyNs" "J" (.long g3)) :
    Pays l Z (⟨"com/example/qbvious/qbvious/model/Figures", "equals", "(Ljava/lang/Object;)Z"⟩ : MethodName) prog_25_method_5_code 3 (some .boolean) ws ({ frames := 0, cells := 0, slots := 0, locals := 0 } : Room) #[(.ref r0), (.ref r1)] h0 (RetQ (some (.int (own_eqv f1 f2 f3 g1 g2 g3))) h0) := by
  refine EKit.pays (plainFor_of_name pn_com_example_qbvious_qbvious_model_Figures) (fun m => ef_rmD m r0 r1) ?_
  intro p e s m below meth c s₁ hx hby hml hZ hown hnm hret X0 e0 hs0
  refine EKit.aloadN X0 hx rfl rfl (hb hby d3_0) (q := 1) rfl ?_
  refine EKit.aloadN X0 hx rfl rfl (hb hby d3_1) (q := 2) rfl ?_
  have h2 : ¬ (r0 = r1) := hne
  refine EKit.acmp X0 hx rfl rfl (same := false) (EKit.rr_f h2) (hb hby d3_2) (by decide) (q := 7) (by decide) ?_
  refine EKit.aloadN X0 hx rfl rfl (hb hby d3_7) (q := 8) rfl ?_
  obtain ⟨T1, X1, e1, st1⟩ := instY X0 hx hZ hown (hw _ (List.mem_of_getElem? (i := 41) rfl)) e0 (Ins.self E1) (g := (mkF m 8 #[.val (.ref r0), .val (.ref r1), .unset] [(.ref r1)])) rfl rfl (hb hby d3_8)
  refine EKit.step st1 ?_
  show EKit.Ends p l e ({ frames := 0, cells := 0, slots := 0, locals := 0 } : Room) s m #[(.ref r0), (.ref r1)] below meth c ({ frames := 0, cells := 0, slots := 0, locals := 0 } : Room).cells ({ frames := 0, cells := 0, slots := 0, locals := 0 } : Room).slots (RetQ (some (.int (own_eqv f1 f2 f3 g1 g2 g3))) h0) T1 (mkF m 11 #[.val (.ref r0), .val (.ref r1), .unset] [(.int (1 : Int32))])
  have h11 : ¬ ((1 : Int32) = (0 : Int32)) := by decide
  refine EKit.ifYes X1 hx (EKit.c_t (feq h11).2) (hb hby d3_11) (by decide) (q := 16) (by decide) ?_
  refine EKit.aloadN X1 hx rfl rfl (hb hby d3_16) (q := 17) rfl ?_
  obtain ⟨T2, X2, e2, st2⟩ := castY X1 hx hZ hown (hw _ (List.mem_of_getElem? (i := 41) rfl)) e1 (Ins.self E1) (g := (mkF m 17 #[.val (.ref r0), .val (.ref r1), .unset] [(.ref r1)])) rfl rfl (hb hby d3_17)
  refine EKit.step st2 ?_
  show EKit.Ends p l e ({ frames := 0, cells := 0, slots := 0, locals := 0 } : Room) s m #[(.ref r0), (.ref r1)] below meth c ({ frames := 0, cells := 0, slots := 0, locals := 0 } : Room).cells ({ frames := 0, cells := 0, slots := 0, locals := 0 } : Room).slots (RetQ (some (.int (own_eqv f1 f2 f3 g1 g2 g3))) h0) T2 (mkF m 20 #[.val (.ref r0), .val (.ref r1), .unset] [(.ref r1)])
  refine EKit.astoreN X2 hx rfl (l' := #[.val (.ref r0), .val (.ref r1), .val (.ref r1)]) rfl (hb hby d3_20) (q := 21) rfl ?_
  refine EKit.aloadN X2 hx rfl rfl (hb hby d3_21) (q := 22) rfl ?_
  obtain ⟨T3, X3, e3, st3⟩ := getF X2 hx hZ hown (host := "") (Or.inl (hw _ (List.mem_of_getElem? (i := 9) rfl))) Via.refl e2 Fr00 (g := (mkF m 22 #[.val (.ref r0), .val (.ref r1), .val (.ref r1)] [(.ref r0)])) rfl rfl (hb hby d3_22)
  refine EKit.step st3 ?_
  show EKit.Ends p l e ({ frames := 0, cells := 0, slots := 0, locals := 0 } : Room) s m #[(.ref r0), (.ref r1)] below meth c ({ frames := 0, cells := 0, slots := 0, locals := 0 } : Room).cells ({ frames := 0, cells := 0, slots := 0, locals := 0 } : Room).slots (RetQ (some (.int (own_eqv f1 f2 f3 g1 g2 g3))) h0) T3 (mkF m 25 #[.val (.ref r0), .val (.ref r1), .val (.ref r1)] [(.long f1)])
  refine EKit.aloadN X3 hx rfl rfl (hb hby d3_25) (q := 26) rfl ?_
  obtain ⟨T4, X4, e4, st4⟩ := getF X3 hx hZ hown (host := "") (Or.inl (hw _ (List.mem_of_getElem? (i := 9) rfl))) Via.refl e3 Fr10 (g := (mkF m 26 #[.val (.ref r0), .val (.ref r1), .val (.ref r1)] [(.ref r1), (.long f1)])) rfl rfl (hb hby d3_26)
  refine EKit.step st4 ?_
  show EKit.Ends p l e ({ frames := 0, cells := 0, slots := 0, locals := 0 } : Room) s m #[(.ref r0), (.ref r1)] below meth c ({ frames := 0, cells := 0, slots := 0, locals := 0 } : Room).cells ({ frames := 0, cells := 0, slots := 0, locals := 0 } : Room).slots (RetQ (some (.int (own_eqv f1 f2 f3 g1 g2 g3))) h0) T4 (mkF m 29 #[.val (.ref r0), .val (.ref r1), .val (.ref r1)] [(.long g1), (.long f1)])
  refine EKit.lcmp X4 hx  (hb hby d3_29) (q := 30) rfl ?_
  by_cases h30 : f1 = g1
  · skip
    refine EKit.ifNo X4 hx (EKit.c_t (teq (EKit.e_t h30)).2) (hb hby d3_30) (q := 33) rfl ?_
    refine EKit.aloadN X4 hx rfl rfl (hb hby d3_33) (q := 34) rfl ?_
    obtain ⟨T5, X5, e5, st5⟩ := getF X4 hx hZ hown (host := "") (Or.inl (hw _ (List.mem_of_getElem? (i := 11) rfl))) Via.refl e4 Fr01 (g := (mkF m 34 #[.val (.ref r0), .val (.ref r1), .val (.ref r1)] [(.ref r0)])) rfl rfl (hb hby d3_34)
    refine EKit.step st5 ?_
    show EKit.Ends p l e ({ frames := 0, cells := 0, slots := 0, locals := 0 } : Room) s m #[(.ref r0), (.ref r1)] below meth c ({ frames := 0, cells := 0, slots := 0, locals := 0 } : Room).cells ({ frames := 0, cells := 0, slots := 0, locals := 0 } : Room).slots (RetQ (some (.int (own_eqv f1 f2 f3 g1 g2 g3))) h0) T5 (mkF m 37 #[.val (.ref r0), .val (.ref r1), .val (.ref r1)] [(.long f2)])
    refine EKit.aloadN X5 hx rfl rfl (hb hby d3_37) (q := 38) rfl ?_
    obtain ⟨T6, X6, e6, st6⟩ := getF X5 hx hZ hown (host := "") (Or.inl (hw _ (List.mem_of_getElem? (i := 11) rfl))) Via.refl e5 Fr11 (g := (mkF m 38 #[.val (.ref r0), .val (.ref r1), .val (.ref r1)] [(.ref r1), (.long f2)])) rfl rfl (hb hby d3_38)
    refine EKit.step st6 ?_
    show EKit.Ends p l e ({ frames := 0, cells := 0, slots := 0, locals := 0 } : Room) s m #[(.ref r0), (.ref r1)] below meth c ({ frames := 0, cells := 0, slots := 0, locals := 0 } : Room).cells ({ frames := 0, cells := 0, slots := 0, locals := 0 } : Room).slots (RetQ (some (.int (own_eqv f1 f2 f3 g1 g2 g3))) h0) T6 (mkF m 41 #[.val (.ref r0), .val (.ref r1), .val (.ref r1)] [(.long g2), (.long f2)])
    refine EKit.lcmp X6 hx  (hb hby d3_41) (q := 42) rfl ?_
    by_cases h42 : f2 = g2
    · skip
      refine EKit.ifNo X6 hx (EKit.c_t (teq (EKit.e_t h42)).2) (hb hby d3_42) (q := 45) rfl ?_
      refine EKit.aloadN X6 hx rfl rfl (hb hby d3_45) (q := 46) rfl ?_
      obtain ⟨T7, X7, e7, st7⟩ := getF X6 hx hZ hown (host := "") (Or.inl (hw _ (List.mem_of_getElem? (i := 13) rfl))) Via.refl e6 Fr02 (g := (mkF m 46 #[.val (.ref r0), .val (.ref r1), .val (.ref r1)] [(.ref r0)])) rfl rfl (hb hby d3_46)
      refine EKit.step st7 ?_
      show EKit.Ends p l e ({ frames := 0, cells := 0, slots := 0, locals := 0 } : Room) s m #[(.ref r0), (.ref r1)] below meth c ({ frames := 0, cells := 0, slots := 0, locals := 0 } : Room).cells ({ frames := 0, cells := 0, slots := 0, locals := 0 } : Room).slots (RetQ (some (.int (own_eqv f1 f2 f3 g1 g2 g3))) h0) T7 (mkF m 49 #[.val (.ref r0), .val (.ref r1), .val (.ref r1)] [(.long f3)])
      refine EKit.aloadN X7 hx rfl rfl (hb hby d3_49) (q := 50) rfl ?_
      obtain ⟨T8, X8, e8, st8⟩ := getF X7 hx hZ hown (host := "") (Or.inl (hw _ (List.mem_of_getElem? (i := 13) rfl))) Via.refl e7 Fr12 (g := (mkF m 50 #[.val (.ref r0), .val (.ref r1), .val (.ref r1)] [(.ref r1), (.long f3)])) rfl rfl (hb hby d3_50)
      refine EKit.step st8 ?_
      show EKit.Ends p l e ({ frames := 0, cells := 0, slots := 0, locals := 0 } : Room) s m #[(.ref r0), (.ref r1)] below meth c ({ frames := 0, cells := 0, slots := 0, locals := 0 } : Room).cells ({ frames := 0, cells := 0, slots := 0, locals := 0 } : Room).slots (RetQ (some (.int (own_eqv f1 f2 f3 g1 g2 g3))) h0) T8 (mkF m 53 #[.val (.ref r0), .val (.ref r1), .val (.ref r1)] [(.long g3), (.long f3)])
      refine EKit.lcmp X8 hx  (hb hby d3_53) (q := 54) rfl ?_
      by_cases h54 : f3 = g3
      · skip
        refine EKit.ifNo X8 hx (EKit.c_t (teq (EKit.e_t h54)).2) (hb hby d3_54) (q := 57) rfl ?_
        refine EKit.iconst X8 hx (v := (1 : Int32)) rfl (hb hby d3_57) (q := 58) rfl ?_
        refine EKit.goto X8 hx (hb hby d3_58) (by decide) (q := 62) (by decide) ?_
        exact EKit.retZ X8 hx hret (by simp) (hb hby d3_62) (⟨congrArg (fun z => some (Value.int z)) (show nar .boolean (1 : Int32) = own_eqv f1 f2 f3 g1 g2 g3 from by simp [own_eqv, h2, h11, h30, h42, h54] <;> decide), e8, rfl⟩) (by decide) (by decide)
      · skip
        refine EKit.ifYes X8 hx (EKit.c_t (feq (EKit.e_f h54)).2) (hb hby d3_54) (by decide) (q := 61) (by decide) ?_
        refine EKit.iconst X8 hx (v := (0 : Int32)) rfl (hb hby d3_61) (q := 62) rfl ?_
        exact EKit.retZ X8 hx hret (by simp) (hb hby d3_62) (⟨congrArg (fun z => some (Value.int z)) (show nar .boolean (0 : Int32) = own_eqv f1 f2 f3 g1 g2 g3 from by simp [own_eqv, h2, h11, h30, h42, h54] <;> decide), e8, rfl⟩) (by decide) (by decide)
    · skip
      refine EKit.ifYes X6 hx (EKit.c_t (feq (EKit.e_f h42)).2) (hb hby d3_42) (by decide) (q := 61) (by decide) ?_
      refine EKit.iconst X6 hx (v := (0 : Int32)) rfl (hb hby d3_61) (q := 62) rfl ?_
      exact EKit.retZ X6 hx hret (by simp) (hb hby d3_62) (⟨congrArg (fun z => some (Value.int z)) (show nar .boolean (0 : Int32) = own_eqv f1 f2 f3 g1 g2 g3 from by simp [own_eqv, h2, h11, h30, h42] <;> decide), e6, rfl⟩) (by decide) (by decide)
  · skip
    refine EKit.ifYes X4 hx (EKit.c_t (feq (EKit.e_f h30)).2) (hb hby d3_30) (by decide) (q := 61) (by decide) ?_
    refine EKit.iconst X4 hx (v := (0 : Int32)) rfl (hb hby d3_61) (q := 62) rfl ?_
    exact EKit.retZ X4 hx hret (by simp) (hb hby d3_62) (⟨congrArg (fun z => some (Value.int z)) (show nar .boolean (0 : Int32) = own_eqv f1 f2 f3 g1 g2 g3 from by simp [own_eqv, h2, h11, h30] <;> decide), e4, rfl⟩) (by decide) (by decide)
def own_ex (a b c d : Int64) (v1 v2 v3 : Int32) : Int32 := if (v1 = 0 ∨ d = a) ∧ (v2 = 0 ∨ d = b) ∧ (v3 = 0 ∨ d = c) then 1 else 0
theorem own_ans (a b c d x y z : Int64) (v1 v2 v3 : Int32) (h1 : x = if v1 = 0 then a else d) (h2 : y = if v2 = 0 then b else d) (h3 : z = if v3 = 0 then c else d) : own_eqv a b c x y z = own_ex a b c d v1 v2 v3 ∧ own_eqv x y z a b c = own_ex a b c d v1 v2 v3 := by
  subst h1 h2 h3
  have k : ∀ (u : Int64) (w : Int32), (u = (if w = 0 then u else d)) ↔ (w = 0 ∨ d = u) := fun u w => by
    by_cases h : w = 0
    · simp [h]
    · simp [h, eq_comm]
  have k' : ∀ (u : Int64) (w : Int32), ((if w = 0 then u else d) = u) ↔ (w = 0 ∨ d = u) := fun u w => by rw [← k u w, eq_comm]
  unfold own_eqv own_ex
  simp only [k, k']
  constructor <;> (by_cases p1 : v1 = 0 ∨ d = a <;> by_cases p2 : v2 = 0 ∨ d = b <;> by_cases p3 : v3 = 0 ∨ d = c <;> simp only [p1, p2, p3, if_true, if_false, and_true, and_false, true_and, false_and])
theorem ef_rm0 (m : MethodId) (x0 : Int64) (x1 : Int64) (x2 : Int64) (x3 : Int64) (x4 : Int32) (x5 : Int32) : entryFrame m #[(.long x0), (.long x1), (.long x2), (.long x3), (.int x4), (.int x5)] maxLocals = mkF m 0 #[.val (.long x0), .second, .val (.long x1), .second, .val (.long x2), .second, .val (.long x3), .second, .val (.int x4), .val (.int x5), .unset, .unset, .unset, .unset, .unset, .unset, .unset, .unset, .unset, .unset, .unset, .unset, .unset] [] := by first | (simp [entryFrame, mkF, argsToLocals, Value.category, maxLocals]; done) | rfl
theorem pn_com_example_qbvious_qbvious_model_FiguresEqualsPinLaw : plainName "com/example/qbvious/qbvious/model/FiguresEqualsPinLaw" = true := by first | (simp [plainName, overriddenIn]; done) | decide +kernel
theorem pd__JJJ_V : parseMethodDescriptor "(JJJ)V" = some ⟨[.long, .long, .long], none⟩ := by decide +kernel
theorem pd__Ljava_lang_Object__Z : parseMethodDescriptor "(Ljava/lang/Object;)Z" = some ⟨[(.object "java/lang/Object")], some .boolean⟩ := by decide +kernel
theorem pd__J_Ljava_lang_Long_ : parseMethodDescriptor "(J)Ljava/lang/Long;" = some ⟨[.long], some (.object "java/lang/Long")⟩ := by decide +kernel
set_option maxRecDepth 65536 in
set_option maxHeartbeats 40000000 in
theorem rm0 (l : Launch) (Z : State) (a0 : Array Value) (hw : ∀ d ∈ tables_1, d.before a0 Z = true) (ws : List Jvm.Cond) (q0 : Int64) (q1 : Int64) (q2 : Int64) (q3 : Int64) (p4 : Int32) (p5 : Int32) (h0 : Heap)  (w_C : Addr) (kk : ClassId) (gC : Int32 → Addr) (S_C : Sta Z h0 "java/lang/Long$LongCache" "cache" "[Ljava/lang/Long;" (.ref w_C)) (A_C : Ary Z h0 w_C kk (.object "java/lang/Long") (256 : Int32) (fun j => .ref (gC j))) (H_C : ∀ j : Int32, ¬ j < 0 → j < 256 → Exa Z h0 (gC j) "java/lang/Long") :
    Pays l Z x code maxLocals ret ws room_1 #[(.long q0), (.long q1), (.long q2), (.long q3), (.int p4), (.int p5)] h0 (fun v h L => v = some (.int (1 : Int32)) ∧ Fr h0.size L) := by
  refine EKit.pays (plainFor_of_name pn_com_example_qbvious_qbvious_model_FiguresEqualsPinLaw) (fun m => ef_rm0 m q0 q1 q2 q3 p4 p5) ?_
  intro p e s m below meth c s₁ hx hby hml hZ hown hnm hret X0 e0 hs0
  obtain ⟨T1, h1, X1, e1, E1, A1, D1, -, st1⟩ := newO X0 hx hZ hown (hw _ (List.mem_of_getElem? (i := 0) rfl)) (hw _ (List.mem_of_getElem? (i := 1) rfl)) (hw _ (List.mem_of_getElem? (i := 2) rfl)) e0 (g := (mkF m 0 #[.val (.long q0), .second, .val (.long q1), .second, .val (.long q2), .second, .val (.long q3), .second, .val (.int p4), .val (.int p5), .unset, .unset, .unset, .unset, .unset, .unset, .unset, .unset, .unset, .unset, .unset, .unset, .unset] [])) rfl (hb hby at_0) (by decide) (by decide)
  obtain ⟨b1, g1⟩ : ∃ z, z = h0.size := ⟨_, rfl⟩
  rw [← g1] at A1 D1 st1
  have gn_b1 : h0.size ≤ b1 := Nat.le_trans (Nat.le_refl _) (Nat.le_of_eq g1.symm)
  have sz1 : h0.size ≤ h1.size := Nat.le_trans (Nat.le_refl _) E1.1
  have F_unscheduled_b1 : Fld Z h1 b1 "com/example/qbvious/qbvious/model/Figures" "unscheduled" "J" (.long (0 : Int64)) := D1 (Or.inr (hw _ (List.mem_of_getElem? (i := 10) rfl))) (ty := .long) (by decide)
  have F_excessQueues_b1 : Fld Z h1 b1 "com/example/qbvious/qbvious/model/Figures" "excessQueues" "J" (.long (0 : Int64)) := D1 (Or.inr (hw _ (List.mem_of_getElem? (i := 12) rfl))) (ty := .long) (by decide)
  have F_extraLatencyNs_b1 : Fld Z h1 b1 "com/example/qbvious/qbvious/model/Figures" "extraLatencyNs" "J" (.long (0 : Int64)) := D1 (Or.inr (hw _ (List.mem_of_getElem? (i := 14) rfl))) (ty := .long) (by decide)
  have EX1 := E1
  refine EKit.step st1 ?_
  show EKit.Ends p l e room_1 s m #[(.long q0), (.long q1), (.long q2), (.long q3), (.int p4), (.int p5)] below meth c room_1.cells room_1.slots (fun v h L => v = some (.int (1 : Int32)) ∧ Fr h0.size L) T1 (mkF m 3 #[.val (.long q0), .second, .val (.long q1), .second, .val (.long q2), .second, .val (.long q3), .second, .val (.int p4), .val (.int p5), .unset, .unset, .unset, .unset, .unset, .unset, .unset, .unset, .unset, .unset, .unset, .unset, .unset] [(.ref b1)])
  refine EKit.dup X1 hx rfl (hb hby at_3) (q := 4) rfl ?_
  refine EKit.lloadN X1 hx rfl (hb hby at_4) (q := 5) rfl ?_
  refine EKit.lloadN X1 hx rfl (hb hby at_5) (q := 6) rfl ?_
  refine EKit.lload X1 hx rfl (hb hby at_6) (q := 8) rfl ?_
  refine EKit.callI X1 hx hZ hown e1 (y := (⟨"com/example/qbvious/qbvious/model/Figures", "<init>", "(JJJ)V"⟩ : MethodName)) rfl (hw _ (List.mem_of_getElem? (i := 3) rfl)) (hw _ (List.mem_of_getElem? (i := 4) rfl)) (hw _ (List.mem_of_getElem? (i := 2) rfl)) (hw _ (List.mem_of_getElem? (i := 5) rfl)) (by decide) (a := b1) (argsL := [(.long q0), (.long q1), (.long q2)]) (rm1 l Z a0 hw [] b1 q0 q1 q2 h1 h0.size gn_b1 A1 F_unscheduled_b1 F_excessQueues_b1 F_extraLatencyNs_b1 ) (rest := [(.ref b1)]) (by rw [hml]; rfl) pd__JJJ_V rfl (W := 1) (Nat.le_of_eq rfl) (by decide) (by decide) (by decide) (by decide) rfl (hb hby at_8) (q := 11) rfl ?_
  intro T2 v2 L2 X2 hQ2
  obtain ⟨rfl, N2q, K2, Ea2, Fa2_unscheduled, Fa2_excessQueues, Fa2_extraLatencyNs⟩ := hQ2
  have X2 := Stand.forget X2 (fun y hy => by rw [hs0]; exact N2q y hy)
  have sz2 : h0.size ≤ T2.heap.size := Nat.le_trans sz1 K2.1
  have fE_b1_2 := A1.keep K2
  have EX2 := EKit.Ext_keep EX1 K2 (allS gn_b1 all0)
  show EKit.Ends p l e room_1 s m #[(.long q0), (.long q1), (.long q2), (.long q3), (.int p4), (.int p5)] below meth c room_1.cells room_1.slots (fun v h L => v = some (.int (1 : Int32)) ∧ Fr h0.size L) T2 (mkF m 11 #[.val (.long q0), .second, .val (.long q1), .second, .val (.long q2), .second, .val (.long q3), .second, .val (.int p4), .val (.int p5), .unset, .unset, .unset, .unset, .unset, .unset, .unset, .unset, .unset, .unset, .unset, .unset, .unset] [(.ref b1)])
  refine EKit.astore X2 hx rfl (l' := #[.val (.long q0), .second, .val (.long q1), .second, .val (.long q2), .second, .val (.long q3), .second, .val (.int p4), .val (.int p5), .val (.ref b1), .unset, .unset, .unset, .unset, .unset, .unset, .unset, .unset, .unset, .unset, .unset, .unset]) rfl (hb hby at_11) (q := 13) rfl ?_
  refine EKit.iload X2 hx rfl (hb hby at_13) (q := 15) rfl ?_
  refine EKit.iconst X2 hx (v := (3 : Int32)) rfl (hb hby at_15) (q := 16) rfl ?_
  refine EKit.iand X2 hx  (hb hby at_16) (q := 17) rfl ?_
  refine EKit.istore X2 hx (l' := #[.val (.long q0), .second, .val (.long q1), .second, .val (.long q2), .second, .val (.long q3), .second, .val (.int p4), .val (.int p5), .val (.ref b1), .val (.int (p5 &&& (3 : Int32))), .unset, .unset, .unset, .unset, .unset, .unset, .unset, .unset, .unset, .unset, .unset]) rfl (hb hby at_17) (q := 19) rfl ?_
  refine EKit.iload X2 hx rfl (hb hby at_19) (q := 21) rfl ?_
  by_cases h21 : (p5 &&& (3 : Int32)) = (0 : Int32)
  · skip
    refine EKit.ifNo X2 hx (EKit.c_t (teq h21).2) (hb hby at_21) (q := 24) rfl ?_
    refine EKit.aload X2 hx rfl rfl (hb hby at_24) (q := 26) rfl ?_
    refine EKit.aload X2 hx rfl rfl (hb hby at_26) (q := 28) rfl ?_
    refine EKit.callV X2 hx hZ hown rfl (y := (⟨"com/example/qbvious/qbvious/model/Figures", "equals", "(Ljava/lang/Object;)Z"⟩ : MethodName)) (z := (⟨"com/example/qbvious/qbvious/model/Figures", "equals", "(Ljava/lang/Object;)Z"⟩ : MethodName)) (K := "com/example/qbvious/qbvious/model/Figures") (hw _ (List.mem_of_getElem? (i := 15) rfl)) (hw _ (List.mem_of_getElem? (i := 16) rfl)) (notFace_of_selects (args := #[]) (mvT hZ (hw _ (List.mem_of_getElem? (i := 18) rfl)))) (hw _ (List.mem_of_getElem? (i := 18) rfl)) (hw _ (List.mem_of_getElem? (i := 17) rfl)) (hw _ (List.mem_of_getElem? (i := 2) rfl)) (hw _ (List.mem_of_getElem? (i := 19) rfl)) (by decide) (a := b1) (fE_b1_2) (argsL := [(.ref b1)]) (rmA l Z a0 hw [] b1 T2.heap) (rest := []) (by rw [hml]; rfl) pd__Ljava_lang_Object__Z rfl (W := 0) (Nat.le_of_eq rfl) (by decide) (by decide) (by decide) (by decide) rfl (hb hby at_28) (q := 31) rfl ?_
    intro T3 v3 L3 X3 hQ3
    obtain ⟨X3, e3, ev3⟩ := EKit.pureK X3 hQ3
    subst ev3
    show EKit.Ends p l e room_1 s m #[(.long q0), (.long q1), (.long q2), (.long q3), (.int p4), (.int p5)] below meth c room_1.cells room_1.slots (fun v h L => v = some (.int (1 : Int32)) ∧ Fr h0.size L) T3 (mkF m 31 #[.val (.long q0), .second, .val (.long q1), .second, .val (.long q2), .second, .val (.long q3), .second, .val (.int p4), .val (.int p5), .val (.ref b1), .val (.int (p5 &&& (3 : Int32))), .unset, .unset, .unset, .unset, .unset, .unset, .unset, .unset, .unset, .unset, .unset] [(.int (1 : Int32))])
    exact EKit.retZ X3 hx hret (by simp) (hb hby at_31) (⟨rfl, Fr.nil _⟩) (by decide) (by decide)
  · skip
    refine EKit.ifYes X2 hx (EKit.c_t (feq h21).2) (hb hby at_21) (by decide) (q := 32) (by decide) ?_
    refine EKit.iload X2 hx rfl (hb hby at_32) (q := 34) rfl ?_
    refine EKit.iconst X2 hx (v := (1 : Int32)) rfl (hb hby at_34) (q := 35) rfl ?_
    by_cases h35 : (p5 &&& (3 : Int32)) = (1 : Int32)
    · skip
      refine EKit.icmpNo X2 hx ((teq h35).2) (hb hby at_35) (q := 38) rfl ?_
      refine EKit.lloadN X2 hx rfl (hb hby at_38) (q := 39) rfl ?_
      refine EKit.callS X2 hx hZ hown rfl (y := (⟨"java/lang/Long", "valueOf", "(J)Ljava/lang/Long;"⟩ : MethodName)) (hw _ (List.mem_of_getElem? (i := 20) rfl)) (hw _ (List.mem_of_getElem? (i := 21) rfl)) (hw _ (List.mem_of_getElem? (i := 22) rfl)) (hw _ (List.mem_of_getElem? (i := 23) rfl)) (by decide) (argsL := [(.long q0)]) (rm4 l Z a0 hw [] q0 T2.heap w_C kk gC (S_C.ext EX2) (A_C.ext EX2) (fun j z1 z2 => ((H_C j z1 z2).ext EX2))) (rest := []) (by rw [hml]; rfl) pd__J_Ljava_lang_Long_ rfl (W := 0) (Nat.le_of_eq rfl) (by decide) (by decide) (by decide) (by decide) rfl (hb hby at_39) (q := 42) rfl ?_
      intro T4 v4 L4 X4 hQ4
      obtain ⟨o4, ev4, Eo4, Ex4, el4⟩ := hQ4
      subst ev4 el4
      rw [List.append_nil] at X4
      have sz4 : h0.size ≤ T4.heap.size := Nat.le_trans sz2 Ex4.1
      have fE_b1_4 := fE_b1_2.ext Ex4
      have fF_b1_unscheduled_4 := Fa2_unscheduled.ext Ex4
      have fF_b1_excessQueues_4 := Fa2_excessQueues.ext Ex4
      have fF_b1_extraLatencyNs_4 := Fa2_extraLatencyNs.ext Ex4
      have EX4 := EKit.Ext_trans EX2 Ex4
      show EKit.Ends p l e room_1 s m #[(.long q0), (.long q1), (.long q2), (.long q3), (.int p4), (.int p5)] below meth c room_1.cells room_1.slots (fun v h L => v = some (.int (1 : Int32)) ∧ Fr h0.size L) T4 (mkF m 42 #[.val (.long q0), .second, .val (.long q1), .second, .val (.long q2), .second, .val (.long q3), .second, .val (.int p4), .val (.int p5), .val (.ref b1), .val (.int (p5 &&& (3 : Int32))), .unset, .unset, .unset, .unset, .unset, .unset, .unset, .unset, .unset, .unset, .unset] [(.ref o4)])
      refine EKit.astore X4 hx rfl (l' := #[.val (.long q0), .second, .val (.long q1), .second, .val (.long q2), .second, .val (.long q3), .second, .val (.int p4), .val (.int p5), .val (.ref b1), .val (.int (p5 &&& (3 : Int32))), .val (.ref o4), .unset, .unset, .unset, .unset, .unset, .unset, .unset, .unset, .unset, .unset]) rfl (hb hby at_42) (q := 44) rfl ?_
      refine EKit.aload X4 hx rfl rfl (hb hby at_44) (q := 46) rfl ?_
      refine EKit.aload X4 hx rfl rfl (hb hby at_46) (q := 48) rfl ?_
      refine EKit.callV X4 hx hZ hown rfl (y := (⟨"com/example/qbvious/qbvious/model/Figures", "equals", "(Ljava/lang/Object;)Z"⟩ : MethodName)) (z := (⟨"com/example/qbvious/qbvious/model/Figures", "equals", "(Ljava/lang/Object;)Z"⟩ : MethodName)) (K := "com/example/qbvious/qbvious/model/Figures") (hw _ (List.mem_of_getElem? (i := 15) rfl)) (hw _ (List.mem_of_getElem? (i := 16) rfl)) (notFace_of_selects (args := #[]) (mvT hZ (hw _ (List.mem_of_getElem? (i := 18) rfl)))) (hw _ (List.mem_of_getElem? (i := 18) rfl)) (hw _ (List.mem_of_getElem? (i := 17) rfl)) (hw _ (List.mem_of_getElem? (i := 2) rfl)) (hw _ (List.mem_of_getElem? (i := 19) rfl)) (by decide) (a := b1) (fE_b1_4) (argsL := [(.ref o4)]) (rmC l Z a0 hw [] b1 o4 T4.heap fE_b1_4 Eo4) (rest := []) (by rw [hml]; rfl) pd__Ljava_lang_Object__Z rfl (W := 0) (Nat.le_of_eq rfl) (by decide) (by decide) (by decide) (by decide) rfl (hb hby at_48) (q := 51) rfl ?_
      intro T5 v5 L5 X5 hQ5
      obtain ⟨X5, e5, ev5⟩ := EKit.pureK X5 hQ5
      subst ev5
      show EKit.Ends p l e room_1 s m #[(.long q0), (.long q1), (.long q2), (.long q3), (.int p4), (.int p5)] below meth c room_1.cells room_1.slots (fun v h L => v = some (.int (1 : Int32)) ∧ Fr h0.size L) T5 (mkF m 51 #[.val (.long q0), .second, .val (.long q1), .second, .val (.long q2), .second, .val (.long q3), .second, .val (.int p4), .val (.int p5), .val (.ref b1), .val (.int (p5 &&& (3 : Int32))), .val (.ref o4), .unset, .unset, .unset, .unset, .unset, .unset, .unset, .unset, .unset, .unset] [(.int (0 : Int32))])
      have h51 : (0 : Int32) = (0 : Int32) := by decide
      refine EKit.ifNo X5 hx (EKit.c_t (teq h51).2) (hb hby at_51) (q := 54) rfl ?_
      refine EKit.iconst X5 hx (v := (1 : Int32)) rfl (hb hby at_54) (q := 55) rfl ?_
      refine EKit.goto X5 hx (hb hby at_55) (by decide) (q := 59) (by decide) ?_
      exact EKit.retZ X5 hx hret (by simp) (hb hby at_59) (⟨rfl, Fr.nil _⟩) (by decide) (by decide)
    · skip
      refine EKit.icmpYes X2 hx ((feq h35).2) (hb hby at_35) (by decide) (q := 60) (by decide) ?_
      refine EKit.iload X2 hx rfl (hb hby at_60) (q := 62) rfl ?_
      refine EKit.iconst X2 hx (v := (2 : Int32)) rfl (hb hby at_62) (q := 63) rfl ?_
      by_cases h63 : (p5 &&& (3 : Int32)) = (2 : Int32)
      · skip
        refine EKit.icmpNo X2 hx ((teq h63).2) (hb hby at_63) (q := 66) rfl ?_
        refine EKit.aload X2 hx rfl rfl (hb hby at_66) (q := 68) rfl ?_
        refine EKit.aconstNull X2 hx  (hb hby at_68) (q := 69) rfl ?_
        refine EKit.callV X2 hx hZ hown rfl (y := (⟨"com/example/qbvious/qbvious/model/Figures", "equals", "(Ljava/lang/Object;)Z"⟩ : MethodName)) (z := (⟨"com/example/qbvious/qbvious/model/Figures", "equals", "(Ljava/lang/Object;)Z"⟩ : MethodName)) (K := "com/example/qbvious/qbvious/model/Figures") (hw _ (List.mem_of_getElem? (i := 15) rfl)) (hw _ (List.mem_of_getElem? (i := 16) rfl)) (notFace_of_selects (args := #[]) (mvT hZ (hw _ (List.mem_of_getElem? (i := 18) rfl)))) (hw _ (List.mem_of_getElem? (i := 18) rfl)) (hw _ (List.mem_of_getElem? (i := 17) rfl)) (hw _ (List.mem_of_getElem? (i := 2) rfl)) (hw _ (List.mem_of_getElem? (i := 19) rfl)) (by decide) (a := b1) (fE_b1_2) (argsL := [.null]) (rmB l Z a0 hw [] b1 T2.heap) (rest := []) (by rw [hml]; rfl) pd__Ljava_lang_Object__Z rfl (W := 0) (Nat.le_of_eq rfl) (by decide) (by decide) (by decide) (by decide) rfl (hb hby at_69) (q := 72) rfl ?_
        intro T6 v6 L6 X6 hQ6
        obtain ⟨X6, e6, ev6⟩ := EKit.pureK X6 hQ6
        subst ev6
        show EKit.Ends p l e room_1 s m #[(.long q0), (.long q1), (.long q2), (.long q3), (.int p4), (.int p5)] below meth c room_1.cells room_1.slots (fun v h L => v = some (.int (1 : Int32)) ∧ Fr h0.size L) T6 (mkF m 72 #[.val (.long q0), .second, .val (.long q1), .second, .val (.long q2), .second, .val (.long q3), .second, .val (.int p4), .val (.int p5), .val (.ref b1), .val (.int (p5 &&& (3 : Int32))), .unset, .unset, .unset, .unset, .unset, .unset, .unset, .unset, .unset, .unset, .unset] [(.int (0 : Int32))])
        have h72 : (0 : Int32) = (0 : Int32) := by decide
        refine EKit.ifNo X6 hx (EKit.c_t (teq h72).2) (hb hby at_72) (q := 75) rfl ?_
        refine EKit.iconst X6 hx (v := (1 : Int32)) rfl (hb hby at_75) (q := 76) rfl ?_
        refine EKit.goto X6 hx (hb hby at_76) (by decide) (q := 80) (by decide) ?_
        exact EKit.retZ X6 hx hret (by simp) (hb hby at_80) (⟨rfl, Fr.nil _⟩) (by decide) (by decide)
      · skip
        refine EKit.icmpYes X2 hx ((feq h63).2) (hb hby at_63) (by decide) (q := 81) (by decide) ?_
        refine EKit.iload X2 hx rfl (hb hby at_81) (q := 83) rfl ?_
        refine EKit.iconst X2 hx (v := (1 : Int32)) rfl (hb hby at_83) (q := 84) rfl ?_
        refine EKit.iand X2 hx  (hb hby at_84) (q := 85) rfl ?_
        have J93_7 : ∀ (TJ7 : State) (XJ7 : Stand p l e room_1 s m #[(.long q0), (.long q1), (.long q2), (.long q3), (.int p4), (.int p5)] below meth c TJ7 [] 1 3) (eJ7 : TJ7.heap = T2.heap) (v1 : Int32), EKit.Ends p l e room_1 s m #[(.long q0), (.long q1), (.long q2), (.long q3), (.int p4), (.int p5)] below meth c room_1.cells room_1.slots (fun v h L => v = some (.int (1 : Int32)) ∧ Fr h0.size L) TJ7 (mkF m 93 #[.val (.long q0), .second, .val (.long q1), .second, .val (.long q2), .second, .val (.long q3), .second, .val (.int p4), .val (.int p5), .val (.ref b1), .val (.int (p5 &&& (3 : Int32))), .unset, .unset, .unset, .unset, .unset, .unset, .unset, .unset, .unset, .unset, .unset] [(.int v1)]) := by
          intro TJ7 XJ7 eJ7 v1
          refine EKit.istore XJ7 hx (l' := #[.val (.long q0), .second, .val (.long q1), .second, .val (.long q2), .second, .val (.long q3), .second, .val (.int p4), .val (.int p5), .val (.ref b1), .val (.int (p5 &&& (3 : Int32))), .val (.int v1), .unset, .unset, .unset, .unset, .unset, .unset, .unset, .unset, .unset, .unset]) rfl (hb hby at_93) (q := 95) rfl ?_
          refine EKit.iload XJ7 hx rfl (hb hby at_95) (q := 97) rfl ?_
          refine EKit.iconst XJ7 hx (v := (2 : Int32)) rfl (hb hby at_97) (q := 98) rfl ?_
          refine EKit.iand XJ7 hx  (hb hby at_98) (q := 99) rfl ?_
          have J107_8 : ∀ (TJ8 : State) (XJ8 : Stand p l e room_1 s m #[(.long q0), (.long q1), (.long q2), (.long q3), (.int p4), (.int p5)] below meth c TJ8 [] 1 3) (eJ8 : TJ8.heap = T2.heap) (v2 : Int32), EKit.Ends p l e room_1 s m #[(.long q0), (.long q1), (.long q2), (.long q3), (.int p4), (.int p5)] below meth c room_1.cells room_1.slots (fun v h L => v = some (.int (1 : Int32)) ∧ Fr h0.size L) TJ8 (mkF m 107 #[.val (.long q0), .second, .val (.long q1), .second, .val (.long q2), .second, .val (.long q3), .second, .val (.int p4), .val (.int p5), .val (.ref b1), .val (.int (p5 &&& (3 : Int32))), .val (.int v1), .unset, .unset, .unset, .unset, .unset, .unset, .unset, .unset, .unset, .unset] [(.int v2)]) := by
            intro TJ8 XJ8 eJ8 v2
            refine EKit.istore XJ8 hx (l' := #[.val (.long q0), .second, .val (.long q1), .second, .val (.long q2), .second, .val (.long q3), .second, .val (.int p4), .val (.int p5), .val (.ref b1), .val (.int (p5 &&& (3 : Int32))), .val (.int v1), .val (.int v2), .unset, .unset, .unset, .unset, .unset, .unset, .unset, .unset, .unset]) rfl (hb hby at_107) (q := 109) rfl ?_
            refine EKit.iload XJ8 hx rfl (hb hby at_109) (q := 111) rfl ?_
            refine EKit.iconst XJ8 hx (v := (4 : Int32)) rfl (hb hby at_111) (q := 112) rfl ?_
            refine EKit.iand XJ8 hx  (hb hby at_112) (q := 113) rfl ?_
            have J121_9 : ∀ (TJ9 : State) (XJ9 : Stand p l e room_1 s m #[(.long q0), (.long q1), (.long q2), (.long q3), (.int p4), (.int p5)] below meth c TJ9 [] 1 3) (eJ9 : TJ9.heap = T2.heap) (v3 : Int32), EKit.Ends p l e room_1 s m #[(.long q0), (.long q1), (.long q2), (.long q3), (.int p4), (.int p5)] below meth c room_1.cells room_1.slots (fun v h L => v = some (.int (1 : Int32)) ∧ Fr h0.size L) TJ9 (mkF m 121 #[.val (.long q0), .second, .val (.long q1), .second, .val (.long q2), .second, .val (.long q3), .second, .val (.int p4), .val (.int p5), .val (.ref b1), .val (.int (p5 &&& (3 : Int32))), .val (.int v1), .val (.int v2), .unset, .unset, .unset, .unset, .unset, .unset, .unset, .unset, .unset] [(.int v3)]) := by
              intro TJ9 XJ9 eJ9 v3
              refine EKit.istore XJ9 hx (l' := #[.val (.long q0), .second, .val (.long q1), .second, .val (.long q2), .second, .val (.long q3), .second, .val (.int p4), .val (.int p5), .val (.ref b1), .val (.int (p5 &&& (3 : Int32))), .val (.int v1), .val (.int v2), .val (.int v3), .unset, .unset, .unset, .unset, .unset, .unset, .unset, .unset]) rfl (hb hby at_121) (q := 123) rfl ?_
              refine EKit.iload XJ9 hx rfl (hb hby at_123) (q := 125) rfl ?_
              have J134_10 : ∀ (TJ10 : State) (XJ10 : Stand p l e room_1 s m #[(.long q0), (.long q1), (.long q2), (.long q3), (.int p4), (.int p5)] below meth c TJ10 [] 1 3) (eJ10 : TJ10.heap = T2.heap) (vx : Int64) (hj134 : vx = if v1 = 0 then q0 else q3), EKit.Ends p l e room_1 s m #[(.long q0), (.long q1), (.long q2), (.long q3), (.int p4), (.int p5)] below meth c room_1.cells room_1.slots (fun v h L => v = some (.int (1 : Int32)) ∧ Fr h0.size L) TJ10 (mkF m 134 #[.val (.long q0), .second, .val (.long q1), .second, .val (.long q2), .second, .val (.long q3), .second, .val (.int p4), .val (.int p5), .val (.ref b1), .val (.int (p5 &&& (3 : Int32))), .val (.int v1), .val (.int v2), .val (.int v3), .unset, .unset, .unset, .unset, .unset, .unset, .unset, .unset] [(.long vx)]) := by
                intro TJ10 XJ10 eJ10 vx hj134
                refine EKit.lstore XJ10 hx (l' := #[.val (.long q0), .second, .val (.long q1), .second, .val (.long q2), .second, .val (.long q3), .second, .val (.int p4), .val (.int p5), .val (.ref b1), .val (.int (p5 &&& (3 : Int32))), .val (.int v1), .val (.int v2), .val (.int v3), .val (.long vx), .second, .unset, .unset, .unset, .unset, .unset, .unset]) rfl (hb hby at_134) (q := 136) rfl ?_
                refine EKit.iload XJ10 hx rfl (hb hby at_136) (q := 138) rfl ?_
                have J147_11 : ∀ (TJ11 : State) (XJ11 : Stand p l e room_1 s m #[(.long q0), (.long q1), (.long q2), (.long q3), (.int p4), (.int p5)] below meth c TJ11 [] 1 3) (eJ11 : TJ11.heap = T2.heap) (vy : Int64) (hj147 : vy = if v2 = 0 then q1 else q3), EKit.Ends p l e room_1 s m #[(.long q0), (.long q1), (.long q2), (.long q3), (.int p4), (.int p5)] below meth c room_1.cells room_1.slots (fun v h L => v = some (.int (1 : Int32)) ∧ Fr h0.size L) TJ11 (mkF m 147 #[.val (.long q0), .second, .val (.long q1), .second, .val (.long q2), .second, .val (.long q3), .second, .val (.int p4), .val (.int p5), .val (.ref b1), .val (.int (p5 &&& (3 : Int32))), .val (.int v1), .val (.int v2), .val (.int v3), .val (.long vx), .second, .unset, .unset, .unset, .unset, .unset, .unset] [(.long vy)]) := by
                  intro TJ11 XJ11 eJ11 vy hj147
                  refine EKit.lstore XJ11 hx (l' := #[.val (.long q0), .second, .val (.long q1), .second, .val (.long q2), .second, .val (.long q3), .second, .val (.int p4), .val (.int p5), .val (.ref b1), .val (.int (p5 &&& (3 : Int32))), .val (.int v1), .val (.int v2), .val (.int v3), .val (.long vx), .second, .val (.long vy), .second, .unset, .unset, .unset, .unset]) rfl (hb hby at_147) (q := 149) rfl ?_
                  refine EKit.iload XJ11 hx rfl (hb hby at_149) (q := 151) rfl ?_
                  have J161_12 : ∀ (TJ12 : State) (XJ12 : Stand p l e room_1 s m #[(.long q0), (.long q1), (.long q2), (.long q3), (.int p4), (.int p5)] below meth c TJ12 [] 1 3) (eJ12 : TJ12.heap = T2.heap) (vz : Int64) (hj161 : vz = if v3 = 0 then q2 else q3), EKit.Ends p l e room_1 s m #[(.long q0), (.long q1), (.long q2), (.long q3), (.int p4), (.int p5)] below meth c room_1.cells room_1.slots (fun v h L => v = some (.int (1 : Int32)) ∧ Fr h0.size L) TJ12 (mkF m 161 #[.val (.long q0), .second, .val (.long q1), .second, .val (.long q2), .second, .val (.long q3), .second, .val (.int p4), .val (.int p5), .val (.ref b1), .val (.int (p5 &&& (3 : Int32))), .val (.int v1), .val (.int v2), .val (.int v3), .val (.long vx), .second, .val (.long vy), .second, .unset, .unset, .unset, .unset] [(.long vz)]) := by
                    intro TJ12 XJ12 eJ12 vz hj161
                    refine EKit.lstore XJ12 hx (l' := #[.val (.long q0), .second, .val (.long q1), .second, .val (.long q2), .second, .val (.long q3), .second, .val (.int p4), .val (.int p5), .val (.ref b1), .val (.int (p5 &&& (3 : Int32))), .val (.int v1), .val (.int v2), .val (.int v3), .val (.long vx), .second, .val (.long vy), .second, .val (.long vz), .second, .unset, .unset]) rfl (hb hby at_161) (q := 163) rfl ?_
                    obtain ⟨T13, h13, X13, e13, E13, A13, D13, -, st13⟩ := newO XJ12 hx hZ hown (hw _ (List.mem_of_getElem? (i := 0) rfl)) (hw _ (List.mem_of_getElem? (i := 1) rfl)) (hw _ (List.mem_of_getElem? (i := 2) rfl)) eJ12 (g := (mkF m 163 #[.val (.long q0), .second, .val (.long q1), .second, .val (.long q2), .second, .val (.long q3), .second, .val (.int p4), .val (.int p5), .val (.ref b1), .val (.int (p5 &&& (3 : Int32))), .val (.int v1), .val (.int v2), .val (.int v3), .val (.long vx), .second, .val (.long vy), .second, .val (.long vz), .second, .unset, .unset] [])) rfl (hb hby at_163) (by decide) (by decide)
                    obtain ⟨b13, g13⟩ : ∃ z, z = T2.heap.size := ⟨_, rfl⟩
                    rw [← g13] at A13 D13 st13
                    have gn_b13 : h0.size ≤ b13 := Nat.le_trans sz2 (Nat.le_of_eq g13.symm)
                    have sz13 : h0.size ≤ h13.size := Nat.le_trans sz2 E13.1
                    have ne_b1_b13 : b1 ≠ b13 := Nat.ne_of_lt (Nat.lt_of_lt_of_le (fE_b1_2).lt (Nat.le_of_eq g13.symm))
                    have ne_b13_b1 : b13 ≠ b1 := Ne.symm ne_b1_b13
                    have fE_b1_13 := fE_b1_2.ext E13
                    have fF_b1_unscheduled_13 := Fa2_unscheduled.ext E13
                    have fF_b1_excessQueues_13 := Fa2_excessQueues.ext E13
                    have fF_b1_extraLatencyNs_13 := Fa2_extraLatencyNs.ext E13
                    have F_unscheduled_b13 : Fld Z h13 b13 "com/example/qbvious/qbvious/model/Figures" "unscheduled" "J" (.long (0 : Int64)) := D13 (Or.inr (hw _ (List.mem_of_getElem? (i := 10) rfl))) (ty := .long) (by decide)
                    have F_excessQueues_b13 : Fld Z h13 b13 "com/example/qbvious/qbvious/model/Figures" "excessQueues" "J" (.long (0 : Int64)) := D13 (Or.inr (hw _ (List.mem_of_getElem? (i := 12) rfl))) (ty := .long) (by decide)
                    have F_extraLatencyNs_b13 : Fld Z h13 b13 "com/example/qbvious/qbvious/model/Figures" "extraLatencyNs" "J" (.long (0 : Int64)) := D13 (Or.inr (hw _ (List.mem_of_getElem? (i := 14) rfl))) (ty := .long) (by decide)
                    have EX13 := EKit.Ext_trans EX2 E13
                    refine EKit.step st13 ?_
                    show EKit.Ends p l e room_1 s m #[(.long q0), (.long q1), (.long q2), (.long q3), (.int p4), (.int p5)] below meth c room_1.cells room_1.slots (fun v h L => v = some (.int (1 : Int32)) ∧ Fr h0.size L) T13 (mkF m 166 #[.val (.long q0), .second, .val (.long q1), .second, .val (.long q2), .second, .val (.long q3), .second, .val (.int p4), .val (.int p5), .val (.ref b1), .val (.int (p5 &&& (3 : Int32))), .val (.int v1), .val (.int v2), .val (.int v3), .val (.long vx), .second, .val (.long vy), .second, .val (.long vz), .second, .unset, .unset] [(.ref b13)])
                    refine EKit.dup X13 hx rfl (hb hby at_166) (q := 167) rfl ?_
                    refine EKit.lload X13 hx rfl (hb hby at_167) (q := 169) rfl ?_
                    refine EKit.lload X13 hx rfl (hb hby at_169) (q := 171) rfl ?_
                    refine EKit.lload X13 hx rfl (hb hby at_171) (q := 173) rfl ?_
                    refine EKit.callI X13 hx hZ hown e13 (y := (⟨"com/example/qbvious/qbvious/model/Figures", "<init>", "(JJJ)V"⟩ : MethodName)) rfl (hw _ (List.mem_of_getElem? (i := 3) rfl)) (hw _ (List.mem_of_getElem? (i := 4) rfl)) (hw _ (List.mem_of_getElem? (i := 2) rfl)) (hw _ (List.mem_of_getElem? (i := 5) rfl)) (by decide) (a := b13) (argsL := [(.long vx), (.long vy), (.long vz)]) (rm1 l Z a0 hw [] b13 vx vy vz h13 h0.size gn_b13 A13 F_unscheduled_b13 F_excessQueues_b13 F_extraLatencyNs_b13 ) (rest := [(.ref b13)]) (by rw [hml]; rfl) pd__JJJ_V rfl (W := 1) (Nat.le_of_eq rfl) (by decide) (by decide) (by decide) (by decide) rfl (hb hby at_173) (q := 176) rfl ?_
                    intro T14 v14 L14 X14 hQ14
                    obtain ⟨rfl, N14q, K14, Ea14, Fa14_unscheduled, Fa14_excessQueues, Fa14_extraLatencyNs⟩ := hQ14
                    have X14 := Stand.forget X14 (fun y hy => by rw [hs0]; exact N14q y hy)
                    have sz14 : h0.size ≤ T14.heap.size := Nat.le_trans sz13 K14.1
                    have fE_b1_14 := fE_b1_13.keep K14
                    have fF_b1_unscheduled_14 := fF_b1_unscheduled_13.keep K14 (ninS (ne_b1_b13) nin0)
                    have fF_b1_excessQueues_14 := fF_b1_excessQueues_13.keep K14 (ninS (ne_b1_b13) nin0)
                    have fF_b1_extraLatencyNs_14 := fF_b1_extraLatencyNs_13.keep K14 (ninS (ne_b1_b13) nin0)
                    have fE_b13_14 := A13.keep K14
                    have EX14 := EKit.Ext_keep EX13 K14 (allS gn_b13 all0)
                    show EKit.Ends p l e room_1 s m #[(.long q0), (.long q1), (.long q2), (.long q3), (.int p4), (.int p5)] below meth c room_1.cells room_1.slots (fun v h L => v = some (.int (1 : Int32)) ∧ Fr h0.size L) T14 (mkF m 176 #[.val (.long q0), .second, .val (.long q1), .second, .val (.long q2), .second, .val (.long q3), .second, .val (.int p4), .val (.int p5), .val (.ref b1), .val (.int (p5 &&& (3 : Int32))), .val (.int v1), .val (.int v2), .val (.int v3), .val (.long vx), .second, .val (.long vy), .second, .val (.long vz), .second, .unset, .unset] [(.ref b13)])
                    refine EKit.astore X14 hx rfl (l' := #[.val (.long q0), .second, .val (.long q1), .second, .val (.long q2), .second, .val (.long q3), .second, .val (.int p4), .val (.int p5), .val (.ref b1), .val (.int (p5 &&& (3 : Int32))), .val (.int v1), .val (.int v2), .val (.int v3), .val (.long vx), .second, .val (.long vy), .second, .val (.long vz), .second, .val (.ref b13), .unset]) rfl (hb hby at_176) (q := 178) rfl ?_
                    refine EKit.iload X14 hx rfl (hb hby at_178) (q := 180) rfl ?_
                    have J220_15 : ∀ (TJ15 : State) (XJ15 : Stand p l e room_1 s m #[(.long q0), (.long q1), (.long q2), (.long q3), (.int p4), (.int p5)] below meth c TJ15 [] 2 6) (eJ15 : TJ15.heap = T14.heap) (ex : Int32) (hj220 : ex = own_ex q0 q1 q2 q3 v1 v2 v3), EKit.Ends p l e room_1 s m #[(.long q0), (.long q1), (.long q2), (.long q3), (.int p4), (.int p5)] below meth c room_1.cells room_1.slots (fun v h L => v = some (.int (1 : Int32)) ∧ Fr h0.size L) TJ15 (mkF m 220 #[.val (.long q0), .second, .val (.long q1), .second, .val (.long q2), .second, .val (.long q3), .second, .val (.int p4), .val (.int p5), .val (.ref b1), .val (.int (p5 &&& (3 : Int32))), .val (.int v1), .val (.int v2), .val (.int v3), .val (.long vx), .second, .val (.long vy), .second, .val (.long vz), .second, .val (.ref b13), .unset] [(.int ex)]) := by
                      intro TJ15 XJ15 eJ15 ex hj220
                      refine EKit.istore XJ15 hx (l' := #[.val (.long q0), .second, .val (.long q1), .second, .val (.long q2), .second, .val (.long q3), .second, .val (.int p4), .val (.int p5), .val (.ref b1), .val (.int (p5 &&& (3 : Int32))), .val (.int v1), .val (.int v2), .val (.int v3), .val (.long vx), .second, .val (.long vy), .second, .val (.long vz), .second, .val (.ref b13), .val (.int ex)]) rfl (hb hby at_220) (q := 222) rfl ?_
                      refine EKit.aload XJ15 hx rfl rfl (hb hby at_222) (q := 224) rfl ?_
                      refine EKit.aload XJ15 hx rfl rfl (hb hby at_224) (q := 226) rfl ?_
                      refine EKit.callV XJ15 hx hZ hown eJ15 (y := (⟨"com/example/qbvious/qbvious/model/Figures", "equals", "(Ljava/lang/Object;)Z"⟩ : MethodName)) (z := (⟨"com/example/qbvious/qbvious/model/Figures", "equals", "(Ljava/lang/Object;)Z"⟩ : MethodName)) (K := "com/example/qbvious/qbvious/model/Figures") (hw _ (List.mem_of_getElem? (i := 15) rfl)) (hw _ (List.mem_of_getElem? (i := 16) rfl)) (notFace_of_selects (args := #[]) (mvT hZ (hw _ (List.mem_of_getElem? (i := 18) rfl)))) (hw _ (List.mem_of_getElem? (i := 18) rfl)) (hw _ (List.mem_of_getElem? (i := 17) rfl)) (hw _ (List.mem_of_getElem? (i := 2) rfl)) (hw _ (List.mem_of_getElem? (i := 19) rfl)) (by decide) (a := b1) (fE_b1_14) (argsL := [(.ref b13)]) (rmD l Z a0 hw [] b1 b13 T14.heap q0 q1 q2 vx vy vz ne_b1_b13 fE_b13_14 fF_b1_unscheduled_14 fF_b1_excessQueues_14 fF_b1_extraLatencyNs_14 Fa14_unscheduled Fa14_excessQueues Fa14_extraLatencyNs) (rest := []) (by rw [hml]; rfl) pd__Ljava_lang_Object__Z rfl (W := 0) (Nat.le_of_eq rfl) (by decide) (by decide) (by decide) (by decide) rfl (hb hby at_226) (q := 229) rfl ?_
                      intro T16 v16 L16 X16 hQ16
                      obtain ⟨X16, e16, ev16⟩ := EKit.pureK X16 hQ16
                      subst ev16
                      show EKit.Ends p l e room_1 s m #[(.long q0), (.long q1), (.long q2), (.long q3), (.int p4), (.int p5)] below meth c room_1.cells room_1.slots (fun v h L => v = some (.int (1 : Int32)) ∧ Fr h0.size L) T16 (mkF m 229 #[.val (.long q0), .second, .val (.long q1), .second, .val (.long q2), .second, .val (.long q3), .second, .val (.int p4), .val (.int p5), .val (.ref b1), .val (.int (p5 &&& (3 : Int32))), .val (.int v1), .val (.int v2), .val (.int v3), .val (.long vx), .second, .val (.long vy), .second, .val (.long vz), .second, .val (.ref b13), .val (.int ex)] [(.int (own_eqv q0 q1 q2 vx vy vz))])
                      refine EKit.iload X16 hx rfl (hb hby at_229) (q := 231) rfl ?_
                      have h231 : (own_eqv q0 q1 q2 vx vy vz) = ex := (own_ans q0 q1 q2 q3 vx vy vz v1 v2 v3 hj134 hj147 hj161).1.trans hj220.symm
                      refine EKit.icmpNo X16 hx ((teq h231).2) (hb hby at_231) (q := 234) rfl ?_
                      refine EKit.aload X16 hx rfl rfl (hb hby at_234) (q := 236) rfl ?_
                      refine EKit.aload X16 hx rfl rfl (hb hby at_236) (q := 238) rfl ?_
                      refine EKit.callV X16 hx hZ hown e16 (y := (⟨"com/example/qbvious/qbvious/model/Figures", "equals", "(Ljava/lang/Object;)Z"⟩ : MethodName)) (z := (⟨"com/example/qbvious/qbvious/model/Figures", "equals", "(Ljava/lang/Object;)Z"⟩ : MethodName)) (K := "com/example/qbvious/qbvious/model/Figures") (hw _ (List.mem_of_getElem? (i := 15) rfl)) (hw _ (List.mem_of_getElem? (i := 16) rfl)) (notFace_of_selects (args := #[]) (mvT hZ (hw _ (List.mem_of_getElem? (i := 18) rfl)))) (hw _ (List.mem_of_getElem? (i := 18) rfl)) (hw _ (List.mem_of_getElem? (i := 17) rfl)) (hw _ (List.mem_of_getElem? (i := 2) rfl)) (hw _ (List.mem_of_getElem? (i := 19) rfl)) (by decide) (a := b13) (fE_b13_14) (argsL := [(.ref b1)]) (rmD l Z a0 hw [] b13 b1 T14.heap vx vy vz q0 q1 q2 ne_b13_b1 fE_b1_14 Fa14_unscheduled Fa14_excessQueues Fa14_extraLatencyNs fF_b1_unscheduled_14 fF_b1_excessQueues_14 fF_b1_extraLatencyNs_14) (rest := []) (by rw [hml]; rfl) pd__Ljava_lang_Object__Z rfl (W := 0) (Nat.le_of_eq rfl) (by decide) (by decide) (by decide) (by decide) rfl (hb hby at_238) (q := 241) rfl ?_
                      intro T17 v17 L17 X17 hQ17
                      obtain ⟨X17, e17, ev17⟩ := EKit.pureK X17 hQ17
                      subst ev17
                      show EKit.Ends p l e room_1 s m #[(.long q0), (.long q1), (.long q2), (.long q3), (.int p4), (.int p5)] below meth c room_1.cells room_1.slots (fun v h L => v = some (.int (1 : Int32)) ∧ Fr h0.size L) T17 (mkF m 241 #[.val (.long q0), .second, .val (.long q1), .second, .val (.long q2), .second, .val (.long q3), .second, .val (.int p4), .val (.int p5), .val (.ref b1), .val (.int (p5 &&& (3 : Int32))), .val (.int v1), .val (.int v2), .val (.int v3), .val (.long vx), .second, .val (.long vy), .second, .val (.long vz), .second, .val (.ref b13), .val (.int ex)] [(.int (own_eqv vx vy vz q0 q1 q2))])
                      refine EKit.iload X17 hx rfl (hb hby at_241) (q := 243) rfl ?_
                      have h243 : (own_eqv vx vy vz q0 q1 q2) = ex := (own_ans q0 q1 q2 q3 vx vy vz v1 v2 v3 hj134 hj147 hj161).2.trans hj220.symm
                      refine EKit.icmpNo X17 hx ((teq h243).2) (hb hby at_243) (q := 246) rfl ?_
                      refine EKit.iconst X17 hx (v := (1 : Int32)) rfl (hb hby at_246) (q := 247) rfl ?_
                      refine EKit.goto X17 hx (hb hby at_247) (by decide) (q := 251) (by decide) ?_
                      exact EKit.retZ X17 hx hret (by simp) (hb hby at_251) (⟨rfl, Fr.nil _⟩) (by decide) (by decide)
                    by_cases h180 : v1 = (0 : Int32)
                    · skip
                      refine EKit.ifYes X14 hx (EKit.c_t (teq h180).1) (hb hby at_180) (by decide) (q := 190) (by decide) ?_
                      refine EKit.iload X14 hx rfl (hb hby at_190) (q := 192) rfl ?_
                      by_cases h192 : v2 = (0 : Int32)
                      · skip
                        refine EKit.ifYes X14 hx (EKit.c_t (teq h192).1) (hb hby at_192) (by decide) (q := 202) (by decide) ?_
                        refine EKit.iload X14 hx rfl (hb hby at_202) (q := 204) rfl ?_
                        by_cases h204 : v3 = (0 : Int32)
                        · skip
                          refine EKit.ifYes X14 hx (EKit.c_t (teq h204).1) (hb hby at_204) (by decide) (q := 215) (by decide) ?_
                          refine EKit.iconst X14 hx (v := (1 : Int32)) rfl (hb hby at_215) (q := 216) rfl ?_
                          refine EKit.goto X14 hx (hb hby at_216) (by decide) (q := 220) (by decide) ?_
                          exact J220_15 T14 X14 rfl (1 : Int32) (if_pos ⟨Or.inl h180, Or.inl h192, Or.inl h204⟩).symm
                        · skip
                          refine EKit.ifNo X14 hx (EKit.c_t (feq h204).1) (hb hby at_204) (q := 207) rfl ?_
                          refine EKit.lload X14 hx rfl (hb hby at_207) (q := 209) rfl ?_
                          refine EKit.lload X14 hx rfl (hb hby at_209) (q := 211) rfl ?_
                          refine EKit.lcmp X14 hx  (hb hby at_211) (q := 212) rfl ?_
                          by_cases h212 : q3 = q2
                          · skip
                            refine EKit.ifNo X14 hx (EKit.c_t (teq (EKit.e_t h212)).2) (hb hby at_212) (q := 215) rfl ?_
                            refine EKit.iconst X14 hx (v := (1 : Int32)) rfl (hb hby at_215) (q := 216) rfl ?_
                            refine EKit.goto X14 hx (hb hby at_216) (by decide) (q := 220) (by decide) ?_
                            exact J220_15 T14 X14 rfl (1 : Int32) (if_pos ⟨Or.inl h180, Or.inl h192, Or.inr h212⟩).symm
                          · skip
                            refine EKit.ifYes X14 hx (EKit.c_t (feq (EKit.e_f h212)).2) (hb hby at_212) (by decide) (q := 219) (by decide) ?_
                            refine EKit.iconst X14 hx (v := (0 : Int32)) rfl (hb hby at_219) (q := 220) rfl ?_
                            exact J220_15 T14 X14 rfl (0 : Int32) (if_neg (fun z => (z.2.2).elim h204 h212)).symm
                      · skip
                        refine EKit.ifNo X14 hx (EKit.c_t (feq h192).1) (hb hby at_192) (q := 195) rfl ?_
                        refine EKit.lload X14 hx rfl (hb hby at_195) (q := 197) rfl ?_
                        refine EKit.lloadN X14 hx rfl (hb hby at_197) (q := 198) rfl ?_
                        refine EKit.lcmp X14 hx  (hb hby at_198) (q := 199) rfl ?_
                        by_cases h199 : q3 = q1
                        · skip
                          refine EKit.ifNo X14 hx (EKit.c_t (teq (EKit.e_t h199)).2) (hb hby at_199) (q := 202) rfl ?_
                          refine EKit.iload X14 hx rfl (hb hby at_202) (q := 204) rfl ?_
                          by_cases h204 : v3 = (0 : Int32)
                          · skip
                            refine EKit.ifYes X14 hx (EKit.c_t (teq h204).1) (hb hby at_204) (by decide) (q := 215) (by decide) ?_
                            refine EKit.iconst X14 hx (v := (1 : Int32)) rfl (hb hby at_215) (q := 216) rfl ?_
                            refine EKit.goto X14 hx (hb hby at_216) (by decide) (q := 220) (by decide) ?_
                            exact J220_15 T14 X14 rfl (1 : Int32) (if_pos ⟨Or.inl h180, Or.inr h199, Or.inl h204⟩).symm
                          · skip
                            refine EKit.ifNo X14 hx (EKit.c_t (feq h204).1) (hb hby at_204) (q := 207) rfl ?_
                            refine EKit.lload X14 hx rfl (hb hby at_207) (q := 209) rfl ?_
                            refine EKit.lload X14 hx rfl (hb hby at_209) (q := 211) rfl ?_
                            refine EKit.lcmp X14 hx  (hb hby at_211) (q := 212) rfl ?_
                            by_cases h212 : q3 = q2
                            · skip
                              refine EKit.ifNo X14 hx (EKit.c_t (teq (EKit.e_t h212)).2) (hb hby at_212) (q := 215) rfl ?_
                              refine EKit.iconst X14 hx (v := (1 : Int32)) rfl (hb hby at_215) (q := 216) rfl ?_
                              refine EKit.goto X14 hx (hb hby at_216) (by decide) (q := 220) (by decide) ?_
                              exact J220_15 T14 X14 rfl (1 : Int32) (if_pos ⟨Or.inl h180, Or.inr h199, Or.inr h212⟩).symm
                            · skip
                              refine EKit.ifYes X14 hx (EKit.c_t (feq (EKit.e_f h212)).2) (hb hby at_212) (by decide) (q := 219) (by decide) ?_
                              refine EKit.iconst X14 hx (v := (0 : Int32)) rfl (hb hby at_219) (q := 220) rfl ?_
                              exact J220_15 T14 X14 rfl (0 : Int32) (if_neg (fun z => (z.2.2).elim h204 h212)).symm
                        · skip
                          refine EKit.ifYes X14 hx (EKit.c_t (feq (EKit.e_f h199)).2) (hb hby at_199) (by decide) (q := 219) (by decide) ?_
                          refine EKit.iconst X14 hx (v := (0 : Int32)) rfl (hb hby at_219) (q := 220) rfl ?_
                          exact J220_15 T14 X14 rfl (0 : Int32) (if_neg (fun z => (z.2.1).elim h192 h199)).symm
                    · skip
                      refine EKit.ifNo X14 hx (EKit.c_t (feq h180).1) (hb hby at_180) (q := 183) rfl ?_
                      refine EKit.lload X14 hx rfl (hb hby at_183) (q := 185) rfl ?_
                      refine EKit.lloadN X14 hx rfl (hb hby at_185) (q := 186) rfl ?_
                      refine EKit.lcmp X14 hx  (hb hby at_186) (q := 187) rfl ?_
                      by_cases h187 : q3 = q0
                      · skip
                        refine EKit.ifNo X14 hx (EKit.c_t (teq (EKit.e_t h187)).2) (hb hby at_187) (q := 190) rfl ?_
                        refine EKit.iload X14 hx rfl (hb hby at_190) (q := 192) rfl ?_
                        by_cases h192 : v2 = (0 : Int32)
                        · skip
                          refine EKit.ifYes X14 hx (EKit.c_t (teq h192).1) (hb hby at_192) (by decide) (q := 202) (by decide) ?_
                          refine EKit.iload X14 hx rfl (hb hby at_202) (q := 204) rfl ?_
                          by_cases h204 : v3 = (0 : Int32)
                          · skip
                            refine EKit.ifYes X14 hx (EKit.c_t (teq h204).1) (hb hby at_204) (by decide) (q := 215) (by decide) ?_
                            refine EKit.iconst X14 hx (v := (1 : Int32)) rfl (hb hby at_215) (q := 216) rfl ?_
                            refine EKit.goto X14 hx (hb hby at_216) (by decide) (q := 220) (by decide) ?_
                            exact J220_15 T14 X14 rfl (1 : Int32) (if_pos ⟨Or.inr h187, Or.inl h192, Or.inl h204⟩).symm
                          · skip
                            refine EKit.ifNo X14 hx (EKit.c_t (feq h204).1) (hb hby at_204) (q := 207) rfl ?_
                            refine EKit.lload X14 hx rfl (hb hby at_207) (q := 209) rfl ?_
                            refine EKit.lload X14 hx rfl (hb hby at_209) (q := 211) rfl ?_
                            refine EKit.lcmp X14 hx  (hb hby at_211) (q := 212) rfl ?_
                            by_cases h212 : q3 = q2
                            · skip
                              refine EKit.ifNo X14 hx (EKit.c_t (teq (EKit.e_t h212)).2) (hb hby at_212) (q := 215) rfl ?_
                              refine EKit.iconst X14 hx (v := (1 : Int32)) rfl (hb hby at_215) (q := 216) rfl ?_
                              refine EKit.goto X14 hx (hb hby at_216) (by decide) (q := 220) (by decide) ?_
                              exact J220_15 T14 X14 rfl (1 : Int32) (if_pos ⟨Or.inr h187, Or.inl h192, Or.inr h212⟩).symm
                            · skip
                              refine EKit.ifYes X14 hx (EKit.c_t (feq (EKit.e_f h212)).2) (hb hby at_212) (by decide) (q := 219) (by decide) ?_
                              refine EKit.iconst X14 hx (v := (0 : Int32)) rfl (hb hby at_219) (q := 220) rfl ?_
                              exact J220_15 T14 X14 rfl (0 : Int32) (if_neg (fun z => (z.2.2).elim h204 h212)).symm
                        · skip
                          refine EKit.ifNo X14 hx (EKit.c_t (feq h192).1) (hb hby at_192) (q := 195) rfl ?_
                          refine EKit.lload X14 hx rfl (hb hby at_195) (q := 197) rfl ?_
                          refine EKit.lloadN X14 hx rfl (hb hby at_197) (q := 198) rfl ?_
                          refine EKit.lcmp X14 hx  (hb hby at_198) (q := 199) rfl ?_
                          by_cases h199 : q3 = q1
                          · skip
                            refine EKit.ifNo X14 hx (EKit.c_t (teq (EKit.e_t h199)).2) (hb hby at_199) (q := 202) rfl ?_
                            refine EKit.iload X14 hx rfl (hb hby at_202) (q := 204) rfl ?_
                            by_cases h204 : v3 = (0 : Int32)
                            · skip
                              refine EKit.ifYes X14 hx (EKit.c_t (teq h204).1) (hb hby at_204) (by decide) (q := 215) (by decide) ?_
                              refine EKit.iconst X14 hx (v := (1 : Int32)) rfl (hb hby at_215) (q := 216) rfl ?_
                              refine EKit.goto X14 hx (hb hby at_216) (by decide) (q := 220) (by decide) ?_
                              exact J220_15 T14 X14 rfl (1 : Int32) (if_pos ⟨Or.inr h187, Or.inr h199, Or.inl h204⟩).symm
                            · skip
                              refine EKit.ifNo X14 hx (EKit.c_t (feq h204).1) (hb hby at_204) (q := 207) rfl ?_
                              refine EKit.lload X14 hx rfl (hb hby at_207) (q := 209) rfl ?_
                              refine EKit.lload X14 hx rfl (hb hby at_209) (q := 211) rfl ?_
                              refine EKit.lcmp X14 hx  (hb hby at_211) (q := 212) rfl ?_
                              by_cases h212 : q3 = q2
                              · skip
                                refine EKit.ifNo X14 hx (EKit.c_t (teq (EKit.e_t h212)).2) (hb hby at_212) (q := 215) rfl ?_
                                refine EKit.iconst X14 hx (v := (1 : Int32)) rfl (hb hby at_215) (q := 216) rfl ?_
                                refine EKit.goto X14 hx (hb hby at_216) (by decide) (q := 220) (by decide) ?_
                                exact J220_15 T14 X14 rfl (1 : Int32) (if_pos ⟨Or.inr h187, Or.inr h199, Or.inr h212⟩).symm
                              · skip
                                refine EKit.ifYes X14 hx (EKit.c_t (feq (EKit.e_f h212)).2) (hb hby at_212) (by decide) (q := 219) (by decide) ?_
                                refine EKit.iconst X14 hx (v := (0 : Int32)) rfl (hb hby at_219) (q := 220) rfl ?_
                                exact J220_15 T14 X14 rfl (0 : Int32) (if_neg (fun z => (z.2.2).elim h204 h212)).symm
                          · skip
                            refine EKit.ifYes X14 hx (EKit.c_t (feq (EKit.e_f h199)).2) (hb hby at_199) (by decide) (q := 219) (by decide) ?_
                            refine EKit.iconst X14 hx (v := (0 : Int32)) rfl (hb hby at_219) (q := 220) rfl ?_
                            exact J220_15 T14 X14 rfl (0 : Int32) (if_neg (fun z => (z.2.1).elim h192 h199)).symm
                      · skip
                        refine EKit.ifYes X14 hx (EKit.c_t (feq (EKit.e_f h187)).2) (hb hby at_187) (by decide) (q := 219) (by decide) ?_
                        refine EKit.iconst X14 hx (v := (0 : Int32)) rfl (hb hby at_219) (q := 220) rfl ?_
                        exact J220_15 T14 X14 rfl (0 : Int32) (if_neg (fun z => (z.1).elim h180 h187)).symm
                  by_cases h151 : v3 = (0 : Int32)
                  · skip
                    refine EKit.ifYes XJ11 hx (EKit.c_t (teq h151).1) (hb hby at_151) (by decide) (q := 159) (by decide) ?_
                    refine EKit.lload XJ11 hx rfl (hb hby at_159) (q := 161) rfl ?_
                    exact J161_12 TJ11 XJ11 eJ11 q2 (by simp [h151])
                  · skip
                    refine EKit.ifNo XJ11 hx (EKit.c_t (feq h151).1) (hb hby at_151) (q := 154) rfl ?_
                    refine EKit.lload XJ11 hx rfl (hb hby at_154) (q := 156) rfl ?_
                    refine EKit.goto XJ11 hx (hb hby at_156) (by decide) (q := 161) (by decide) ?_
                    exact J161_12 TJ11 XJ11 eJ11 q3 (by simp [h151])
                by_cases h138 : v2 = (0 : Int32)
                · skip
                  refine EKit.ifYes XJ10 hx (EKit.c_t (teq h138).1) (hb hby at_138) (by decide) (q := 146) (by decide) ?_
                  refine EKit.lloadN XJ10 hx rfl (hb hby at_146) (q := 147) rfl ?_
                  exact J147_11 TJ10 XJ10 eJ10 q1 (by simp [h138])
                · skip
                  refine EKit.ifNo XJ10 hx (EKit.c_t (feq h138).1) (hb hby at_138) (q := 141) rfl ?_
                  refine EKit.lload XJ10 hx rfl (hb hby at_141) (q := 143) rfl ?_
                  refine EKit.goto XJ10 hx (hb hby at_143) (by decide) (q := 147) (by decide) ?_
                  exact J147_11 TJ10 XJ10 eJ10 q3 (by simp [h138])
              by_cases h125 : v1 = (0 : Int32)
              · skip
                refine EKit.ifYes XJ9 hx (EKit.c_t (teq h125).1) (hb hby at_125) (by decide) (q := 133) (by decide) ?_
                refine EKit.lloadN XJ9 hx rfl (hb hby at_133) (q := 134) rfl ?_
                exact J134_10 TJ9 XJ9 eJ9 q0 (by simp [h125])
              · skip
                refine EKit.ifNo XJ9 hx (EKit.c_t (feq h125).1) (hb hby at_125) (q := 128) rfl ?_
                refine EKit.lload XJ9 hx rfl (hb hby at_128) (q := 130) rfl ?_
                refine EKit.goto XJ9 hx (hb hby at_130) (by decide) (q := 134) (by decide) ?_
                exact J134_10 TJ9 XJ9 eJ9 q3 (by simp [h125])
            by_cases h113 : (p4 &&& (4 : Int32)) = (0 : Int32)
            · skip
              refine EKit.ifYes XJ8 hx (EKit.c_t (teq h113).1) (hb hby at_113) (by decide) (q := 120) (by decide) ?_
              refine EKit.iconst XJ8 hx (v := (0 : Int32)) rfl (hb hby at_120) (q := 121) rfl ?_
              exact J121_9 TJ8 XJ8 eJ8 (0 : Int32)
            · skip
              refine EKit.ifNo XJ8 hx (EKit.c_t (feq h113).1) (hb hby at_113) (q := 116) rfl ?_
              refine EKit.iconst XJ8 hx (v := (1 : Int32)) rfl (hb hby at_116) (q := 117) rfl ?_
              refine EKit.goto XJ8 hx (hb hby at_117) (by decide) (q := 121) (by decide) ?_
              exact J121_9 TJ8 XJ8 eJ8 (1 : Int32)
          by_cases h99 : (p4 &&& (2 : Int32)) = (0 : Int32)
          · skip
            refine EKit.ifYes XJ7 hx (EKit.c_t (teq h99).1) (hb hby at_99) (by decide) (q := 106) (by decide) ?_
            refine EKit.iconst XJ7 hx (v := (0 : Int32)) rfl (hb hby at_106) (q := 107) rfl ?_
            exact J107_8 TJ7 XJ7 eJ7 (0 : Int32)
          · skip
            refine EKit.ifNo XJ7 hx (EKit.c_t (feq h99).1) (hb hby at_99) (q := 102) rfl ?_
            refine EKit.iconst XJ7 hx (v := (1 : Int32)) rfl (hb hby at_102) (q := 103) rfl ?_
            refine EKit.goto XJ7 hx (hb hby at_103) (by decide) (q := 107) (by decide) ?_
            exact J107_8 TJ7 XJ7 eJ7 (1 : Int32)
        by_cases h85 : (p4 &&& (1 : Int32)) = (0 : Int32)
        · skip
          refine EKit.ifYes X2 hx (EKit.c_t (teq h85).1) (hb hby at_85) (by decide) (q := 92) (by decide) ?_
          refine EKit.iconst X2 hx (v := (0 : Int32)) rfl (hb hby at_92) (q := 93) rfl ?_
          exact J93_7 T2 X2 rfl (0 : Int32)
        · skip
          refine EKit.ifNo X2 hx (EKit.c_t (feq h85).1) (hb hby at_85) (q := 88) rfl ?_
          refine EKit.iconst X2 hx (v := (1 : Int32)) rfl (hb hby at_88) (q := 89) rfl ?_
          refine EKit.goto X2 hx (hb hby at_89) (by decide) (q := 93) (by decide) ?_
          exact J93_7 T2 X2 rfl (1 : Int32)
theorem own_clamp (i : Nat) (h : i < 2 ^ 31) : (Int32.ofNat i).toNatClampNeg = i := by
  have e : (Nat.toInt32 i).toInt = i := len_toInt h
  show (Int32.ofNat i).toInt.toNat = i
  rw [show (Int32.ofNat i).toInt = i from e]; rfl
theorem own_cache {args : Array Value} {s : State} {t : Jvm.Term} {x : Addr} {cl : Cell} {ty : FieldType} {C : String} {D : Jvm.Cond} (ht : ∀ idx, t.eval args s none idx s = some (.ref x)) (A : Arr s s.heap x cl ty) (hsz : cl.slots.size < 2 ^ 31) (h : (Jvm.Cond.all t (Jvm.Cond.and (Jvm.Cond.exactly (Jvm.Term.elem t (Jvm.Term.index 0)) C) D)).value args s none s [] = some true) : ∀ i : Nat, i < cl.slots.size → ∃ a : Addr, cl.slots[i]? = some (.ref a) ∧ Exa s s.heap a C := by
  intro i hi
  have hk := (and_e (Cond.all_elim (ht []) (A.fin (U := s) (Vm.Alike.refl _)) h i hi)).1
  obtain ⟨a, e1⟩ := exa_v hk
  have hj : (Jvm.Term.index 0).eval args s none [i] s = some (.int (Nat.toInt32 i)) := by simp [Term.eval]
  have e2 := (elem_in e1 (ht [i]) hj A.1).2
  have e3 : (Nat.toInt32 i).toNatClampNeg = i := own_clamp i (Nat.lt_trans hi hsz)
  rw [e3] at e2
  have e4 : (Jvm.Term.elem t (Jvm.Term.int (Nat.toInt32 i))).eval args s none [] s = some (.ref a) := by
    rw [elem_f (ht []) (Term.int_eval _) (A.fin (U := s) (Vm.Alike.refl _)) (fun q => by
      have z : (Nat.toInt32 i).toInt = i := len_toInt (Nat.lt_trans hi hsz)
      rw [Int32.lt_iff_toInt_lt, z] at q; exact absurd q (Int.not_lt.mpr (Int.natCast_nonneg _))), e3]; exact e2
  refine ⟨a, e2, Exa.start e4 ?_⟩
  simp only [Cond.value, e1] at hk
  simp only [Cond.value, e4]
  exact hk
set_option maxRecDepth 65536 in
set_option maxHeartbeats 40000000 in
theorem comes_1 {Post : Tables → Env → Array Value → State → Outcome → State → Prop} (hpost : ∀ tb e args s v u, (limb_1_1.after args s (.returned v) u = true ∧ limb_1_2.after args s (.returned v) u = true ∧ True) → FrameEnd s (.returned v) u (Jvm.fieldLocs frame_1_writes args s ++ Jvm.arrayLocs frame_1_arrays args s ++ Jvm.staticLocs frame_1_statics s) 16 128 → Post tb e args s (.returned v) u) :
    ArmFor flags0 classFile x code maxLocals ret World_1 tables_1 room_1 Calls_1 rest_1 Pre_1 Post := by
  intro l hfl _ _ p e ha hc hk s m args below hf hA hF happ hP
  obtain ⟨hcalls, hrest, hpre⟩ := hP
  obtain ⟨-, -, -, hnamed, -, -, -, hat⟩ := (Spec.applies_iff hf).mp happ
  obtain ⟨hg, hn⟩ := and_e (Cond.before_iff.mp (show (Jvm.Cond.and given_1 narrow_1).before args s = true from hpre))
  obtain ⟨g4, g5⟩ := and_e hg
  obtain ⟨g6, g7⟩ := and_e g5
  obtain ⟨g8, g9⟩ := and_e g7
  obtain ⟨g10, g11⟩ := and_e g9
  obtain ⟨g12, g13⟩ := and_e g11
  obtain ⟨g14, g15⟩ := and_e g13
  obtain ⟨w0, w1, w2, w3, w4, w5, rfl⟩ : ∃ w0 w1 w2 w3 w4 w5 : Value, args = #[w0, w1, w2, w3, w4, w5] := by
    have hs : args.size = 6 := by simpa [Cond.value, given_1] using g4
    obtain ⟨L⟩ := args
    match L, hs with
    | [w0, w1, w2, w3, w4, w5], _ => exact ⟨w0, w1, w2, w3, w4, w5, rfl⟩
  have hw := fun d (hd : d ∈ tables_1) => atoms_spec (ws := Jvm.Cond.code x code maxLocals ret :: tables_1) hat d (List.mem_cons_of_mem _ hd)
  obtain ⟨i0, ei0⟩ := isL_v g6
  obtain rfl : w0 = (.long i0) := Option.some.inj ei0
  obtain ⟨i1, ei1⟩ := isL_v g8
  obtain rfl : w1 = (.long i1) := Option.some.inj ei1
  obtain ⟨i2, ei2⟩ := isL_v g10
  obtain rfl : w2 = (.long i2) := Option.some.inj ei2
  obtain ⟨i3, ei3⟩ := isL_v g12
  obtain rfl : w3 = (.long i3) := Option.some.inj ei3
  obtain ⟨i4, ei4⟩ := is_v g14
  obtain rfl : w4 = (.int i4) := Option.some.inj ei4
  obtain ⟨i5, ei5⟩ := is_v g15
  obtain rfl : w5 = (.int i5) := Option.some.inj ei5
  obtain ⟨hsets, hown0⟩ := atoms_of _ (rest_1_c_eq ▸ (show rest_1_c.before _ s = true from hrest))
  obtain ⟨w_C, ev_C⟩ := arr_v (Cond.before_iff.mp (hsets _ (List.mem_of_getElem? (i := 2) rfl)))
  obtain ⟨cl, A0⟩ := Arr.start ev_C (Cond.before_iff.mp (hsets _ (List.mem_of_getElem? (i := 2) rfl)))
  have S_C : Sta s s.heap "java/lang/Long$LongCache" "cache" "[Ljava/lang/Long;" (.ref w_C) := Sta.start ev_C (Or.inl (hsets _ (List.mem_of_getElem? (i := 1) rfl)))
  obtain ⟨r2, r3⟩ := EKit.evalLen (EKit.evalEq (Cond.before_iff.mp (hsets _ (List.mem_of_getElem? (i := 4) rfl))) (Term.int_eval _)) ev_C A0
  have hall := own_cache (fun _ => ev_C) A0 (by rw [r2]; decide) (Cond.before_iff.mp (hsets _ (List.mem_of_getElem? (i := 5) rfl)))
  have hex : ∀ i : Nat, ∃ a : Addr, i < cl.slots.size → cl.slots[i]? = some (.ref a) ∧ Exa s s.heap a "java/lang/Long" := fun i => by
    by_cases hi : i < cl.slots.size
    · obtain ⟨a, h⟩ := hall i hi; exact ⟨a, fun _ => h⟩
    · exact ⟨0, fun h => absurd h hi⟩
  obtain ⟨gg, hgg⟩ := Classical.axiomOfChoice hex
  have A_C : Ary s s.heap w_C cl.cls (.object "java/lang/Long") (256 : Int32) (fun j => .ref (gg j.toNatClampNeg)) := by
    refine Ary.start A0 r2 r3 fun i hi => ?_
    have q := (hgg i (by rw [r2]; exact hi)).1
    have e : (Int32.ofNat i).toNatClampNeg = i := own_clamp i (Nat.lt_of_lt_of_le hi (by decide))
    rw [q, e]
  have H_C : ∀ j : Int32, ¬ j < 0 → j < 256 → Exa s s.heap (gg j.toNatClampNeg) "java/lang/Long" := fun j h1 h2 => (hgg j.toNatClampNeg (Nat.lt_of_not_le fun q => inb_of r2 ⟨h1, h2⟩ (Or.inr q))).2
  obtain ⟨n, o, h1, h2, h3, _, L, rfl, ⟨rfl, N⟩, hq⟩ := rm0 l s _ hw tables_1 i0 i1 i2 i3 i4 i5 s.heap w_C cl.cls (fun j => gg j.toNatClampNeg) S_C A_C H_C p e ha hc hk s m _ below hf ((Spec.applies_iff_loose hf).mp happ).1 ⟨rfl, State.Warmed39.refl s, rfl⟩ trivial
  refine ⟨n, _, h1, h2, h3, hpost _ _ _ _ _ _ ⟨Cond.after_iff.mpr rfl, Cond.after_iff.mpr (eq_i res_at (Term.int_eval (1)) rfl), trivial⟩ ⟨hq.1, hq.2.1, (hq.2.2.sift fun y hy => Or.inr (N y hy)).mono (by decide) (by decide)⟩⟩
theorem main_1_1 : Claimed_1_1 := comes_1 fun _ _ _ _ _ _ h hF => ⟨h.1, hF⟩
theorem main_1_2 : Claimed_1_2 := comes_1 fun _ _ _ _ _ _ h hF => ⟨h.2.1, hF⟩
end Jvm.Pilot.@@N@@
namespace Jvm.Pilot.@@N@@
open Jvm Jvm.ClassFile Sem Op Lib Jvm.Free Jvm.Stand Jvm.Pilot.@@N@@.Jvm.D
/-! MADE BY PROGRAM (witnessworld.py) out of the Statement's table words and the real class files: 16 classes; the members and pool entries that the words name. The judged class is class 1, her method 1. -/
namespace start1
open Jvm.ClassFile
def u (s : String) : CpInfo := .utf8 (stringToUtf16 s)
/-- a pool by its gaps: so many unusable entries, then the entry; so many at the end -/
def gap : Nat → List CpInfo → List CpInfo
  | 0, r => r
  | n + 1, r => .unusable :: gap n r
def poolList (es : List (Nat × CpInfo)) (last : Nat) : List CpInfo := es.foldr (fun e r => gap e.1 (e.2 :: r)) (gap last [])
def pool (es : List (Nat × CpInfo)) (last : Nat) : Array CpInfo := ⟨poolList es last⟩
def fileOf (pool : Array CpInfo) (this : Nat) (attrs : Array Attribute := #[]) (ms : Array MethodInfo := #[]) (fl : Nat := 33) (sup : Nat := 0) (ifs : Array Nat := #[]) (fds : Array FieldInfo := #[]) : ClassFile where
  minorVersion := 0
  majorVersion := 65
  constantPool := pool
  accessFlags := fl
  thisClass := this
  superClass := sup
  interfaces := ifs
  fields := fds
  methods := ms
  attributes := attrs
def plain (name : String) (sup : Option ClassId) : Class where
  name := name
  kind := .ordinary
  loader := none
  accessFlags := 33
  super := sup
  interfaces := #[]
  cf := none
  fields := #[]
  methods := #[]
  instanceTypes := #[]
  staticTypes := #[]
  resolved := #[]
  callSites := []
  init := .initialized
  statics := none
  mirror := none

def pool0 : Array CpInfo := pool [(5, u "<init>"), (0, u "()V"), (1, .class_ 10), (1, u "java/lang/Object")] 113

def k0c0 : Code := { maxStack := 0, maxLocals := 1, code := object_method_1_code, exceptionTable := #[], attributes := #[] }
def k0m0 : Method := { name := "<init>", desc := "()V", sig := { parameters := [], returnType := none }, accessFlags := 1, code := some k0c0 }
/-- java/lang/Object -/
def k0 : Class := { plain "java/lang/Object" none with
  accessFlags := 33
  interfaces := #[]
  cf := some (fileOf pool0 8 #[] #[{ accessFlags := 1, nameIndex := 5, descriptorIndex := 6, attributes := #[] }] 33 0 #[] #[])
  fields := #[]
  methods := #[k0m0]
  instanceTypes := #[]
  staticTypes := #[]
  resolved := Array.replicate 124 none
  statics := none }

def pool1 : Array CpInfo := pool [(2, .class_ 4), (1, u "java/lang/Object"), (0, u "<init>"), (0, u "()V"), (0, .class_ 8), (0, u "com/example/qbvious/qbvious/model/Figures"), (0, .methodref 7 10), (0, .nameAndType 5 11), (0, u "(JJJ)V"), (0, .methodref 7 13), (0, .nameAndType 14 15), (0, u "equals"), (0, u "(Ljava/lang/Object;)Z"), (0, .methodref 17 18), (0, .class_ 19), (0, .nameAndType 20 21), (0, u "java/lang/Long"), (0, u "valueOf"), (0, u "(J)Ljava/lang/Long;"), (0, .class_ 23), (0, u "com/example/qbvious/qbvious/model/FiguresEqualsPinLaw"), (2, u "law"), (0, u "(JJJJII)Z")] 3

def k1m0 : Method := { name := "<init>", desc := "()V", sig := { parameters := [], returnType := none }, accessFlags := 1, code := none }
def k1c1 : Code := { maxStack := 8, maxLocals := 23, code := code, exceptionTable := #[], attributes := #[] }
def k1m1 : Method := { name := "law", desc := "(JJJJII)Z", sig := { parameters := [.long, .long, .long, .long, .int, .int], returnType := some .boolean }, accessFlags := 9, code := some k1c1 }
/-- com/example/qbvious/qbvious/model/FiguresEqualsPinLaw -/
def k1 : Class := { plain "com/example/qbvious/qbvious/model/FiguresEqualsPinLaw" (some 0) with
  accessFlags := 49
  interfaces := #[]
  cf := some (fileOf pool1 22 #[] #[{ accessFlags := 1, nameIndex := 5, descriptorIndex := 6, attributes := #[] }, { accessFlags := 9, nameIndex := 26, descriptorIndex := 27, attributes := #[] }] 49 2 #[] #[])
  fields := #[]
  methods := #[k1m0, k1m1]
  instanceTypes := #[]
  staticTypes := #[]
  resolved := Array.replicate 31 none
  statics := none }

def pool2 : Array CpInfo := pool [(1, .methodref 2 3), (0, .class_ 4), (0, .nameAndType 5 6), (0, u "java/lang/Object"), (0, u "<init>"), (0, u "()V"), (0, .fieldref 8 9), (0, .class_ 10), (0, .nameAndType 11 12), (0, u "com/example/qbvious/qbvious/model/Figures"), (0, u "unscheduled"), (0, u "J"), (0, .fieldref 8 14), (0, .nameAndType 15 12), (0, u "excessQueues"), (0, .fieldref 8 17), (0, .nameAndType 18 12), (0, u "extraLatencyNs"), (16, u "(JJJ)V"), (3, u "equals"), (0, u "(Ljava/lang/Object;)Z")] 22

def k2c0 : Code := { maxStack := 3, maxLocals := 7, code := prog_25_method_1_code, exceptionTable := #[], attributes := #[] }
def k2m0 : Method := { name := "<init>", desc := "(JJJ)V", sig := { parameters := [.long, .long, .long], returnType := none }, accessFlags := 1, code := some k2c0 }
def k2c1 : Code := { maxStack := 4, maxLocals := 3, code := prog_25_method_5_code, exceptionTable := #[], attributes := #[] }
def k2m1 : Method := { name := "equals", desc := "(Ljava/lang/Object;)Z", sig := { parameters := [(.object "java/lang/Object")], returnType := some .boolean }, accessFlags := 1, code := some k2c1 }
/-- com/example/qbvious/qbvious/model/Figures -/
def k2 : Class := { plain "com/example/qbvious/qbvious/model/Figures" (some 0) with
  accessFlags := 49
  interfaces := #[]
  cf := some (fileOf pool2 8 #[] #[{ accessFlags := 1, nameIndex := 5, descriptorIndex := 35, attributes := #[] }, { accessFlags := 1, nameIndex := 39, descriptorIndex := 40, attributes := #[] }] 49 2 #[] #[{ accessFlags := 18, nameIndex := 11, descriptorIndex := 12, attributes := #[] }, { accessFlags := 18, nameIndex := 15, descriptorIndex := 12, attributes := #[] }, { accessFlags := 18, nameIndex := 18, descriptorIndex := 12, attributes := #[] }])
  fields := #[{ name := "unscheduled", type := .long, accessFlags := 18, slot := 0, constantValue := 0 }, { name := "excessQueues", type := .long, accessFlags := 18, slot := 1, constantValue := 0 }, { name := "extraLatencyNs", type := .long, accessFlags := 18, slot := 2, constantValue := 0 }]
  methods := #[k2m0, k2m1]
  instanceTypes := #[.long, .long, .long]
  staticTypes := #[]
  resolved := Array.replicate 63 none
  statics := none }

def pool3 : Array CpInfo := pool [(1, .class_ 2), (0, u "java/io/Serializable"), (0, .class_ 4), (0, u "java/lang/Object")] 2

/-- java/io/Serializable -/
def k3 : Class := { plain "java/io/Serializable" (some 0) with
  accessFlags := 1537
  interfaces := #[]
  cf := some (fileOf pool3 1 #[] #[] 1537 3 #[] #[])
  fields := #[]
  methods := #[]
  instanceTypes := #[]
  staticTypes := #[]
  resolved := Array.replicate 7 none
  statics := none }

def pool4 : Array CpInfo := pool [(1, .methodref 2 3), (0, .class_ 4), (0, .nameAndType 5 6), (0, u "java/lang/Object"), (0, u "<init>"), (0, u "()V"), (1, .class_ 10), (1, u "java/lang/Number"), (2, .class_ 14), (0, u "java/io/Serializable"), (0, u "serialVersionUID"), (0, u "J")] 20

def k4c0 : Code := { maxStack := 1, maxLocals := 1, code := jdk_18_method_1_code, exceptionTable := #[], attributes := #[] }
def k4m0 : Method := { name := "<init>", desc := "()V", sig := { parameters := [], returnType := none }, accessFlags := 1, code := some k4c0 }
/-- java/lang/Number -/
def k4 : Class := { plain "java/lang/Number" (some 0) with
  accessFlags := 1057
  interfaces := #[3]
  cf := some (fileOf pool4 8 #[] #[{ accessFlags := 1, nameIndex := 5, descriptorIndex := 6, attributes := #[] }] 1057 2 #[13] #[{ accessFlags := 26, nameIndex := 15, descriptorIndex := 16, attributes := #[] }])
  fields := #[{ name := "serialVersionUID", type := .long, accessFlags := 26, slot := 0, constantValue := 0 }]
  methods := #[k4m0]
  instanceTypes := #[]
  staticTypes := #[.long]
  resolved := Array.replicate 37 none
  statics := none }

def pool5 : Array CpInfo := pool [(1, .class_ 2), (0, u "java/lang/Comparable"), (0, .class_ 4), (0, u "java/lang/Object")] 7

/-- java/lang/Comparable -/
def k5 : Class := { plain "java/lang/Comparable" (some 0) with
  accessFlags := 1537
  interfaces := #[]
  cf := some (fileOf pool5 1 #[] #[] 1537 3 #[] #[])
  fields := #[]
  methods := #[]
  instanceTypes := #[]
  staticTypes := #[]
  resolved := Array.replicate 12 none
  statics := none }

def pool6 : Array CpInfo := pool [(1, .class_ 2), (0, u "java/lang/constant/Constable"), (0, .class_ 4), (0, u "java/lang/Object")] 6

/-- java/lang/constant/Constable -/
def k6 : Class := { plain "java/lang/constant/Constable" (some 0) with
  accessFlags := 1537
  interfaces := #[]
  cf := some (fileOf pool6 1 #[] #[] 1537 3 #[] #[])
  fields := #[]
  methods := #[]
  instanceTypes := #[]
  staticTypes := #[]
  resolved := Array.replicate 11 none
  statics := none }

def pool7 : Array CpInfo := pool [(1, .class_ 2), (0, u "java/lang/constant/ConstantDesc"), (0, .class_ 4), (0, u "java/lang/Object")] 32

/-- java/lang/constant/ConstantDesc -/
def k7 : Class := { plain "java/lang/constant/ConstantDesc" (some 0) with
  accessFlags := 1537
  interfaces := #[]
  cf := some (fileOf pool7 1 #[] #[] 1537 3 #[] #[])
  fields := #[]
  methods := #[]
  instanceTypes := #[]
  staticTypes := #[]
  resolved := Array.replicate 37 none
  statics := none }

def pool8 : Array CpInfo := pool [(1, .class_ 2), (0, u "java/lang/Long"), (55, .nameAndType 59 60), (0, u "<init>"), (0, u "()V"), (24, u "valueOf"), (143, u "(J)Ljava/lang/Long;"), (0, .long 18446744073709551488), (1, .long 127), (1, .fieldref 235 236), (0, .class_ 237), (0, .nameAndType 238 239), (0, u "java/lang/Long$LongCache"), (0, u "cache"), (0, u "[Ljava/lang/Long;"), (0, .methodref 1 241), (0, .nameAndType 59 242), (0, u "(J)V"), (27, .methodref 271 58), (0, .class_ 272), (0, u "java/lang/Number"), (0, .fieldref 1 274), (0, .nameAndType 275 276), (0, u "value"), (0, u "J"), (84, u "TYPE"), (0, u "Ljava/lang/Class;"), (0, .class_ 364), (0, u "java/lang/Comparable"), (0, .class_ 366), (0, u "java/lang/constant/Constable"), (0, .class_ 368), (0, u "java/lang/constant/ConstantDesc"), (0, u "MIN_VALUE"), (1, u "MAX_VALUE"), (4, u "SIZE"), (0, u "I"), (1, u "BYTES"), (1, u "serialVersionUID")] 142

def k8c0 : Code := { maxStack := 4, maxLocals := 3, code := jdk_35_method_24_code, exceptionTable := #[], attributes := #[] }
def k8m0 : Method := { name := "valueOf", desc := "(J)Ljava/lang/Long;", sig := { parameters := [.long], returnType := some (.object "java/lang/Long") }, accessFlags := 9, code := some k8c0 }
def k8c1 : Code := { maxStack := 3, maxLocals := 3, code := jdk_35_method_26_code, exceptionTable := #[], attributes := #[] }
def k8m1 : Method := { name := "<init>", desc := "(J)V", sig := { parameters := [.long], returnType := none }, accessFlags := 1, code := some k8c1 }
/-- java/lang/Long -/
def k8 : Class := { plain "java/lang/Long" (some 4) with
  accessFlags := 49
  interfaces := #[5, 6, 7]
  cf := some (fileOf pool8 1 #[.nestMembers #[235]] #[{ accessFlags := 9, nameIndex := 85, descriptorIndex := 229, attributes := #[] }, { accessFlags := 1, nameIndex := 59, descriptorIndex := 242, attributes := #[] }] 49 271 #[363, 365, 367] #[{ accessFlags := 25, nameIndex := 369, descriptorIndex := 276, attributes := #[] }, { accessFlags := 25, nameIndex := 371, descriptorIndex := 276, attributes := #[] }, { accessFlags := 25, nameIndex := 361, descriptorIndex := 362, attributes := #[] }, { accessFlags := 18, nameIndex := 275, descriptorIndex := 276, attributes := #[] }, { accessFlags := 25, nameIndex := 376, descriptorIndex := 377, attributes := #[] }, { accessFlags := 25, nameIndex := 379, descriptorIndex := 377, attributes := #[] }, { accessFlags := 26, nameIndex := 381, descriptorIndex := 276, attributes := #[] }])
  fields := #[{ name := "MIN_VALUE", type := .long, accessFlags := 25, slot := 0, constantValue := 0 }, { name := "MAX_VALUE", type := .long, accessFlags := 25, slot := 1, constantValue := 0 }, { name := "TYPE", type := (.object "java/lang/Class"), accessFlags := 25, slot := 2, constantValue := 0 }, { name := "value", type := .long, accessFlags := 18, slot := 0, constantValue := 0 }, { name := "SIZE", type := .int, accessFlags := 25, slot := 3, constantValue := 0 }, { name := "BYTES", type := .int, accessFlags := 25, slot := 4, constantValue := 0 }, { name := "serialVersionUID", type := .long, accessFlags := 26, slot := 5, constantValue := 0 }]
  methods := #[k8m0, k8m1]
  instanceTypes := #[.long]
  staticTypes := #[.long, .long, (.object "java/lang/Class"), .int, .int, .long]
  resolved := Array.replicate 524 none
  statics := none }

def pool9 : Array CpInfo := pool [(2, .class_ 4), (1, u "java/lang/Object"), (0, u "<init>"), (0, u "()V"), (0, .class_ 8), (0, u "java/lang/Long"), (7, .class_ 18), (1, u "java/lang/Long$LongCache"), (0, u "$assertionsDisabled"), (0, u "Z"), (8, u "archivedCache"), (0, u "[Ljava/lang/Long;"), (7, u "cache")] 24

def k9m0 : Method := { name := "<init>", desc := "()V", sig := { parameters := [], returnType := none }, accessFlags := 2, code := none }
/-- java/lang/Long$LongCache -/
def k9 : Class := { plain "java/lang/Long$LongCache" (some 0) with
  accessFlags := 48
  interfaces := #[]
  cf := some (fileOf pool9 16 #[.nestHost 7] #[{ accessFlags := 2, nameIndex := 5, descriptorIndex := 6, attributes := #[] }] 48 2 #[] #[{ accessFlags := 24, nameIndex := 38, descriptorIndex := 30, attributes := #[] }, { accessFlags := 8, nameIndex := 29, descriptorIndex := 30, attributes := #[] }, { accessFlags := 4120, nameIndex := 19, descriptorIndex := 20, attributes := #[] }])
  fields := #[{ name := "cache", type := (.array (.object "java/lang/Long")), accessFlags := 24, slot := 0, constantValue := 0 }, { name := "archivedCache", type := (.array (.object "java/lang/Long")), accessFlags := 8, slot := 1, constantValue := 0 }, { name := "$assertionsDisabled", type := .boolean, accessFlags := 4120, slot := 2, constantValue := 0 }]
  methods := #[k9m0]
  instanceTypes := #[]
  staticTypes := #[(.array (.object "java/lang/Long")), (.array (.object "java/lang/Long")), .boolean]
  resolved := Array.replicate 63 none
  statics := some 0 }

def pool10 : Array CpInfo := pool [(1, u "java/lang/Cloneable"), (0, .class_ 1), (0, u "java/lang/Object"), (0, .class_ 3)] 3

/-- java/lang/Cloneable -/
def k10 : Class := { plain "java/lang/Cloneable" (some 0) with
  accessFlags := 1537
  interfaces := #[]
  cf := some (fileOf pool10 2 #[] #[] 1537 4 #[] #[])
  fields := #[]
  methods := #[]
  instanceTypes := #[]
  staticTypes := #[]
  resolved := Array.replicate 8 none
  statics := none }

/-- the primitive byte -/
def k11 : Class := { plain "byte" none with kind := .primitive 'B', accessFlags := 0x411 }
/-- [B -/
def k12 : Class := { plain "[B" (some 0) with kind := .array 11 .byte, interfaces := #[10, 3], accessFlags := 1041 }

/-- the primitive int -/
def k13 : Class := { plain "int" none with kind := .primitive 'I', accessFlags := 0x411 }
/-- [I -/
def k14 : Class := { plain "[I" (some 0) with kind := .array 13 .int, interfaces := #[10, 3], accessFlags := 1041 }

/-- [Ljava/lang/Long; -/
def k15 : Class := { plain "[Ljava/lang/Long;" (some 0) with kind := .array 8 (.object "java/lang/Long"), interfaces := #[10, 3], accessFlags := 1041 }

def heap : Heap := #[{ cls := 9, slots := #[.ref 1, .null, .int 0], vm := .statics 9 },
  { cls := 15, slots := #[.ref 2, .ref 3, .ref 4, .ref 5, .ref 6, .ref 7, .ref 8, .ref 9, .ref 10, .ref 11, .ref 12, .ref 13, .ref 14, .ref 15, .ref 16, .ref 17, .ref 18, .ref 19, .ref 20, .ref 21, .ref 22, .ref 23, .ref 24, .ref 25, .ref 26, .ref 27, .ref 28, .ref 29, .ref 30, .ref 31, .ref 32, .ref 33, .ref 34, .ref 35, .ref 36, .ref 37, .ref 38, .ref 39, .ref 40, .ref 41, .ref 42, .ref 43, .ref 44, .ref 45, .ref 46, .ref 47, .ref 48, .ref 49, .ref 50, .ref 51, .ref 52, .ref 53, .ref 54, .ref 55, .ref 56, .ref 57, .ref 58, .ref 59, .ref 60, .ref 61, .ref 62, .ref 63, .ref 64, .ref 65, .ref 66, .ref 67, .ref 68, .ref 69, .ref 70, .ref 71, .ref 72, .ref 73, .ref 74, .ref 75, .ref 76, .ref 77, .ref 78, .ref 79, .ref 80, .ref 81, .ref 82, .ref 83, .ref 84, .ref 85, .ref 86, .ref 87, .ref 88, .ref 89, .ref 90, .ref 91, .ref 92, .ref 93, .ref 94, .ref 95, .ref 96, .ref 97, .ref 98, .ref 99, .ref 100, .ref 101, .ref 102, .ref 103, .ref 104, .ref 105, .ref 106, .ref 107, .ref 108, .ref 109, .ref 110, .ref 111, .ref 112, .ref 113, .ref 114, .ref 115, .ref 116, .ref 117, .ref 118, .ref 119, .ref 120, .ref 121, .ref 122, .ref 123, .ref 124, .ref 125, .ref 126, .ref 127, .ref 128, .ref 129, .ref 130, .ref 131, .ref 132, .ref 133, .ref 134, .ref 135, .ref 136, .ref 137, .ref 138, .ref 139, .ref 140, .ref 141, .ref 142, .ref 143, .ref 144, .ref 145, .ref 146, .ref 147, .ref 148, .ref 149, .ref 150, .ref 151, .ref 152, .ref 153, .ref 154, .ref 155, .ref 156, .ref 157, .ref 158, .ref 159, .ref 160, .ref 161, .ref 162, .ref 163, .ref 164, .ref 165, .ref 166, .ref 167, .ref 168, .ref 169, .ref 170, .ref 171, .ref 172, .ref 173, .ref 174, .ref 175, .ref 176, .ref 177, .ref 178, .ref 179, .ref 180, .ref 181, .ref 182, .ref 183, .ref 184, .ref 185, .ref 186, .ref 187, .ref 188, .ref 189, .ref 190, .ref 191, .ref 192, .ref 193, .ref 194, .ref 195, .ref 196, .ref 197, .ref 198, .ref 199, .ref 200, .ref 201, .ref 202, .ref 203, .ref 204, .ref 205, .ref 206, .ref 207, .ref 208, .ref 209, .ref 210, .ref 211, .ref 212, .ref 213, .ref 214, .ref 215, .ref 216, .ref 217, .ref 218, .ref 219, .ref 220, .ref 221, .ref 222, .ref 223, .ref 224, .ref 225, .ref 226, .ref 227, .ref 228, .ref 229, .ref 230, .ref 231, .ref 232, .ref 233, .ref 234, .ref 235, .ref 236, .ref 237, .ref 238, .ref 239, .ref 240, .ref 241, .ref 242, .ref 243, .ref 244, .ref 245, .ref 246, .ref 247, .ref 248, .ref 249, .ref 250, .ref 251, .ref 252, .ref 253, .ref 254, .ref 255, .ref 256, .ref 257], vm := .none },
  { cls := 8, slots := #[.long (-128)], vm := .none },
  { cls := 8, slots := #[.long (-127)], vm := .none },
  { cls := 8, slots := #[.long (-126)], vm := .none },
  { cls := 8, slots := #[.long (-125)], vm := .none },
  { cls := 8, slots := #[.long (-124)], vm := .none },
  { cls := 8, slots := #[.long (-123)], vm := .none },
  { cls := 8, slots := #[.long (-122)], vm := .none },
  { cls := 8, slots := #[.long (-121)], vm := .none },
  { cls := 8, slots := #[.long (-120)], vm := .none },
  { cls := 8, slots := #[.long (-119)], vm := .none },
  { cls := 8, slots := #[.long (-118)], vm := .none },
  { cls := 8, slots := #[.long (-117)], vm := .none },
  { cls := 8, slots := #[.long (-116)], vm := .none },
  { cls := 8, slots := #[.long (-115)], vm := .none },
  { cls := 8, slots := #[.long (-114)], vm := .none },
  { cls := 8, slots := #[.long (-113)], vm := .none },
  { cls := 8, slots := #[.long (-112)], vm := .none },
  { cls := 8, slots := #[.long (-111)], vm := .none },
  { cls := 8, slots := #[.long (-110)], vm := .none },
  { cls := 8, slots := #[.long (-109)], vm := .none },
  { cls := 8, slots := #[.long (-108)], vm := .none },
  { cls := 8, slots := #[.long (-107)], vm := .none },
  { cls := 8, slots := #[.long (-106)], vm := .none },
  { cls := 8, slots := #[.long (-105)], vm := .none },
  { cls := 8, slots := #[.long (-104)], vm := .none },
  { cls := 8, slots := #[.long (-103)], vm := .none },
  { cls := 8, slots := #[.long (-102)], vm := .none },
  { cls := 8, slots := #[.long (-101)], vm := .none },
  { cls := 8, slots := #[.long (-100)], vm := .none },
  { cls := 8, slots := #[.long (-99)], vm := .none },
  { cls := 8, slots := #[.long (-98)], vm := .none },
  { cls := 8, slots := #[.long (-97)], vm := .none },
  { cls := 8, slots := #[.long (-96)], vm := .none },
  { cls := 8, slots := #[.long (-95)], vm := .none },
  { cls := 8, slots := #[.long (-94)], vm := .none },
  { cls := 8, slots := #[.long (-93)], vm := .none },
  { cls := 8, slots := #[.long (-92)], vm := .none },
  { cls := 8, slots := #[.long (-91)], vm := .none },
  { cls := 8, slots := #[.long (-90)], vm := .none },
  { cls := 8, slots := #[.long (-89)], vm := .none },
  { cls := 8, slots := #[.long (-88)], vm := .none },
  { cls := 8, slots := #[.long (-87)], vm := .none },
  { cls := 8, slots := #[.long (-86)], vm := .none },
  { cls := 8, slots := #[.long (-85)], vm := .none },
  { cls := 8, slots := #[.long (-84)], vm := .none },
  { cls := 8, slots := #[.long (-83)], vm := .none },
  { cls := 8, slots := #[.long (-82)], vm := .none },
  { cls := 8, slots := #[.long (-81)], vm := .none },
  { cls := 8, slots := #[.long (-80)], vm := .none },
  { cls := 8, slots := #[.long (-79)], vm := .none },
  { cls := 8, slots := #[.long (-78)], vm := .none },
  { cls := 8, slots := #[.long (-77)], vm := .none },
  { cls := 8, slots := #[.long (-76)], vm := .none },
  { cls := 8, slots := #[.long (-75)], vm := .none },
  { cls := 8, slots := #[.long (-74)], vm := .none },
  { cls := 8, slots := #[.long (-73)], vm := .none },
  { cls := 8, slots := #[.long (-72)], vm := .none },
  { cls := 8, slots := #[.long (-71)], vm := .none },
  { cls := 8, slots := #[.long (-70)], vm := .none },
  { cls := 8, slots := #[.long (-69)], vm := .none },
  { cls := 8, slots := #[.long (-68)], vm := .none },
  { cls := 8, slots := #[.long (-67)], vm := .none },
  { cls := 8, slots := #[.long (-66)], vm := .none },
  { cls := 8, slots := #[.long (-65)], vm := .none },
  { cls := 8, slots := #[.long (-64)], vm := .none },
  { cls := 8, slots := #[.long (-63)], vm := .none },
  { cls := 8, slots := #[.long (-62)], vm := .none },
  { cls := 8, slots := #[.long (-61)], vm := .none },
  { cls := 8, slots := #[.long (-60)], vm := .none },
  { cls := 8, slots := #[.long (-59)], vm := .none },
  { cls := 8, slots := #[.long (-58)], vm := .none },
  { cls := 8, slots := #[.long (-57)], vm := .none },
  { cls := 8, slots := #[.long (-56)], vm := .none },
  { cls := 8, slots := #[.long (-55)], vm := .none },
  { cls := 8, slots := #[.long (-54)], vm := .none },
  { cls := 8, slots := #[.long (-53)], vm := .none },
  { cls := 8, slots := #[.long (-52)], vm := .none },
  { cls := 8, slots := #[.long (-51)], vm := .none },
  { cls := 8, slots := #[.long (-50)], vm := .none },
  { cls := 8, slots := #[.long (-49)], vm := .none },
  { cls := 8, slots := #[.long (-48)], vm := .none },
  { cls := 8, slots := #[.long (-47)], vm := .none },
  { cls := 8, slots := #[.long (-46)], vm := .none },
  { cls := 8, slots := #[.long (-45)], vm := .none },
  { cls := 8, slots := #[.long (-44)], vm := .none },
  { cls := 8, slots := #[.long (-43)], vm := .none },
  { cls := 8, slots := #[.long (-42)], vm := .none },
  { cls := 8, slots := #[.long (-41)], vm := .none },
  { cls := 8, slots := #[.long (-40)], vm := .none },
  { cls := 8, slots := #[.long (-39)], vm := .none },
  { cls := 8, slots := #[.long (-38)], vm := .none },
  { cls := 8, slots := #[.long (-37)], vm := .none },
  { cls := 8, slots := #[.long (-36)], vm := .none },
  { cls := 8, slots := #[.long (-35)], vm := .none },
  { cls := 8, slots := #[.long (-34)], vm := .none },
  { cls := 8, slots := #[.long (-33)], vm := .none },
  { cls := 8, slots := #[.long (-32)], vm := .none },
  { cls := 8, slots := #[.long (-31)], vm := .none },
  { cls := 8, slots := #[.long (-30)], vm := .none },
  { cls := 8, slots := #[.long (-29)], vm := .none },
  { cls := 8, slots := #[.long (-28)], vm := .none },
  { cls := 8, slots := #[.long (-27)], vm := .none },
  { cls := 8, slots := #[.long (-26)], vm := .none },
  { cls := 8, slots := #[.long (-25)], vm := .none },
  { cls := 8, slots := #[.long (-24)], vm := .none },
  { cls := 8, slots := #[.long (-23)], vm := .none },
  { cls := 8, slots := #[.long (-22)], vm := .none },
  { cls := 8, slots := #[.long (-21)], vm := .none },
  { cls := 8, slots := #[.long (-20)], vm := .none },
  { cls := 8, slots := #[.long (-19)], vm := .none },
  { cls := 8, slots := #[.long (-18)], vm := .none },
  { cls := 8, slots := #[.long (-17)], vm := .none },
  { cls := 8, slots := #[.long (-16)], vm := .none },
  { cls := 8, slots := #[.long (-15)], vm := .none },
  { cls := 8, slots := #[.long (-14)], vm := .none },
  { cls := 8, slots := #[.long (-13)], vm := .none },
  { cls := 8, slots := #[.long (-12)], vm := .none },
  { cls := 8, slots := #[.long (-11)], vm := .none },
  { cls := 8, slots := #[.long (-10)], vm := .none },
  { cls := 8, slots := #[.long (-9)], vm := .none },
  { cls := 8, slots := #[.long (-8)], vm := .none },
  { cls := 8, slots := #[.long (-7)], vm := .none },
  { cls := 8, slots := #[.long (-6)], vm := .none },
  { cls := 8, slots := #[.long (-5)], vm := .none },
  { cls := 8, slots := #[.long (-4)], vm := .none },
  { cls := 8, slots := #[.long (-3)], vm := .none },
  { cls := 8, slots := #[.long (-2)], vm := .none },
  { cls := 8, slots := #[.long (-1)], vm := .none },
  { cls := 8, slots := #[.long (0)], vm := .none },
  { cls := 8, slots := #[.long (1)], vm := .none },
  { cls := 8, slots := #[.long (2)], vm := .none },
  { cls := 8, slots := #[.long (3)], vm := .none },
  { cls := 8, slots := #[.long (4)], vm := .none },
  { cls := 8, slots := #[.long (5)], vm := .none },
  { cls := 8, slots := #[.long (6)], vm := .none },
  { cls := 8, slots := #[.long (7)], vm := .none },
  { cls := 8, slots := #[.long (8)], vm := .none },
  { cls := 8, slots := #[.long (9)], vm := .none },
  { cls := 8, slots := #[.long (10)], vm := .none },
  { cls := 8, slots := #[.long (11)], vm := .none },
  { cls := 8, slots := #[.long (12)], vm := .none },
  { cls := 8, slots := #[.long (13)], vm := .none },
  { cls := 8, slots := #[.long (14)], vm := .none },
  { cls := 8, slots := #[.long (15)], vm := .none },
  { cls := 8, slots := #[.long (16)], vm := .none },
  { cls := 8, slots := #[.long (17)], vm := .none },
  { cls := 8, slots := #[.long (18)], vm := .none },
  { cls := 8, slots := #[.long (19)], vm := .none },
  { cls := 8, slots := #[.long (20)], vm := .none },
  { cls := 8, slots := #[.long (21)], vm := .none },
  { cls := 8, slots := #[.long (22)], vm := .none },
  { cls := 8, slots := #[.long (23)], vm := .none },
  { cls := 8, slots := #[.long (24)], vm := .none },
  { cls := 8, slots := #[.long (25)], vm := .none },
  { cls := 8, slots := #[.long (26)], vm := .none },
  { cls := 8, slots := #[.long (27)], vm := .none },
  { cls := 8, slots := #[.long (28)], vm := .none },
  { cls := 8, slots := #[.long (29)], vm := .none },
  { cls := 8, slots := #[.long (30)], vm := .none },
  { cls := 8, slots := #[.long (31)], vm := .none },
  { cls := 8, slots := #[.long (32)], vm := .none },
  { cls := 8, slots := #[.long (33)], vm := .none },
  { cls := 8, slots := #[.long (34)], vm := .none },
  { cls := 8, slots := #[.long (35)], vm := .none },
  { cls := 8, slots := #[.long (36)], vm := .none },
  { cls := 8, slots := #[.long (37)], vm := .none },
  { cls := 8, slots := #[.long (38)], vm := .none },
  { cls := 8, slots := #[.long (39)], vm := .none },
  { cls := 8, slots := #[.long (40)], vm := .none },
  { cls := 8, slots := #[.long (41)], vm := .none },
  { cls := 8, slots := #[.long (42)], vm := .none },
  { cls := 8, slots := #[.long (43)], vm := .none },
  { cls := 8, slots := #[.long (44)], vm := .none },
  { cls := 8, slots := #[.long (45)], vm := .none },
  { cls := 8, slots := #[.long (46)], vm := .none },
  { cls := 8, slots := #[.long (47)], vm := .none },
  { cls := 8, slots := #[.long (48)], vm := .none },
  { cls := 8, slots := #[.long (49)], vm := .none },
  { cls := 8, slots := #[.long (50)], vm := .none },
  { cls := 8, slots := #[.long (51)], vm := .none },
  { cls := 8, slots := #[.long (52)], vm := .none },
  { cls := 8, slots := #[.long (53)], vm := .none },
  { cls := 8, slots := #[.long (54)], vm := .none },
  { cls := 8, slots := #[.long (55)], vm := .none },
  { cls := 8, slots := #[.long (56)], vm := .none },
  { cls := 8, slots := #[.long (57)], vm := .none },
  { cls := 8, slots := #[.long (58)], vm := .none },
  { cls := 8, slots := #[.long (59)], vm := .none },
  { cls := 8, slots := #[.long (60)], vm := .none },
  { cls := 8, slots := #[.long (61)], vm := .none },
  { cls := 8, slots := #[.long (62)], vm := .none },
  { cls := 8, slots := #[.long (63)], vm := .none },
  { cls := 8, slots := #[.long (64)], vm := .none },
  { cls := 8, slots := #[.long (65)], vm := .none },
  { cls := 8, slots := #[.long (66)], vm := .none },
  { cls := 8, slots := #[.long (67)], vm := .none },
  { cls := 8, slots := #[.long (68)], vm := .none },
  { cls := 8, slots := #[.long (69)], vm := .none },
  { cls := 8, slots := #[.long (70)], vm := .none },
  { cls := 8, slots := #[.long (71)], vm := .none },
  { cls := 8, slots := #[.long (72)], vm := .none },
  { cls := 8, slots := #[.long (73)], vm := .none },
  { cls := 8, slots := #[.long (74)], vm := .none },
  { cls := 8, slots := #[.long (75)], vm := .none },
  { cls := 8, slots := #[.long (76)], vm := .none },
  { cls := 8, slots := #[.long (77)], vm := .none },
  { cls := 8, slots := #[.long (78)], vm := .none },
  { cls := 8, slots := #[.long (79)], vm := .none },
  { cls := 8, slots := #[.long (80)], vm := .none },
  { cls := 8, slots := #[.long (81)], vm := .none },
  { cls := 8, slots := #[.long (82)], vm := .none },
  { cls := 8, slots := #[.long (83)], vm := .none },
  { cls := 8, slots := #[.long (84)], vm := .none },
  { cls := 8, slots := #[.long (85)], vm := .none },
  { cls := 8, slots := #[.long (86)], vm := .none },
  { cls := 8, slots := #[.long (87)], vm := .none },
  { cls := 8, slots := #[.long (88)], vm := .none },
  { cls := 8, slots := #[.long (89)], vm := .none },
  { cls := 8, slots := #[.long (90)], vm := .none },
  { cls := 8, slots := #[.long (91)], vm := .none },
  { cls := 8, slots := #[.long (92)], vm := .none },
  { cls := 8, slots := #[.long (93)], vm := .none },
  { cls := 8, slots := #[.long (94)], vm := .none },
  { cls := 8, slots := #[.long (95)], vm := .none },
  { cls := 8, slots := #[.long (96)], vm := .none },
  { cls := 8, slots := #[.long (97)], vm := .none },
  { cls := 8, slots := #[.long (98)], vm := .none },
  { cls := 8, slots := #[.long (99)], vm := .none },
  { cls := 8, slots := #[.long (100)], vm := .none },
  { cls := 8, slots := #[.long (101)], vm := .none },
  { cls := 8, slots := #[.long (102)], vm := .none },
  { cls := 8, slots := #[.long (103)], vm := .none },
  { cls := 8, slots := #[.long (104)], vm := .none },
  { cls := 8, slots := #[.long (105)], vm := .none },
  { cls := 8, slots := #[.long (106)], vm := .none },
  { cls := 8, slots := #[.long (107)], vm := .none },
  { cls := 8, slots := #[.long (108)], vm := .none },
  { cls := 8, slots := #[.long (109)], vm := .none },
  { cls := 8, slots := #[.long (110)], vm := .none },
  { cls := 8, slots := #[.long (111)], vm := .none },
  { cls := 8, slots := #[.long (112)], vm := .none },
  { cls := 8, slots := #[.long (113)], vm := .none },
  { cls := 8, slots := #[.long (114)], vm := .none },
  { cls := 8, slots := #[.long (115)], vm := .none },
  { cls := 8, slots := #[.long (116)], vm := .none },
  { cls := 8, slots := #[.long (117)], vm := .none },
  { cls := 8, slots := #[.long (118)], vm := .none },
  { cls := 8, slots := #[.long (119)], vm := .none },
  { cls := 8, slots := #[.long (120)], vm := .none },
  { cls := 8, slots := #[.long (121)], vm := .none },
  { cls := 8, slots := #[.long (122)], vm := .none },
  { cls := 8, slots := #[.long (123)], vm := .none },
  { cls := 8, slots := #[.long (124)], vm := .none },
  { cls := 8, slots := #[.long (125)], vm := .none },
  { cls := 8, slots := #[.long (126)], vm := .none },
  { cls := 8, slots := #[.long (127)], vm := .none }]
def classes : Array Class := #[k0, k1, k2, k3, k4, k5, k6, k7, k8, k9, k10, k11, k12, k13, k14, k15]
def interned : List (Array UInt16 × Addr) := []
def slotsUsed : Nat := 515
def theMethod : MethodId := ⟨1, 1⟩
def args0 : Array Value := #[.long 5, .long 9, .long 3, .long 4, .int 1, .int 2]
def aboutOver (below : List Frame) : State where
  vm := { classes := classes, interned := interned.toArray }
  heap := heap
  slotsUsed := slotsUsed
  threads := #[{ frames := .invoking theMethod args0 :: below }]
def below0 : List Frame := [.native { method := ⟨0, 0⟩, args := #[] }]
def about1 : State := aboutOver below0
def p0 : Program := .bare "" "" ""
def e0 : Env := launch0.env 0 0 0
theorem w_frames : about1.frames = Frame.invoking theMethod args0 :: below0 := rfl
set_option maxRecDepth 65536 in
theorem w_args : argsFit about1.vm theMethod args0 = true := by decide +kernel
set_option maxRecDepth 65536 in
theorem w_heap : heapFits about1 = true := by decide +kernel
set_option maxRecDepth 65536 in
theorem w_runnable : about1.curStatus? = some .runnable := by decide +kernel
set_option maxRecDepth 65536 in
theorem w_alone : about1.alone = true := by decide +kernel
set_option maxRecDepth 65536 in
theorem w_named : about1.methodNamed? x = some theMethod := by decide +kernel
set_option maxRecDepth 65536 in
theorem w_hears : about1.hears theMethod below0 = true := by decide +kernel
set_option maxRecDepth 65536 in
theorem w_ripe : about1.ripe theMethod args0 below0 = true := by decide +kernel
theorem w_running : about1.status = .running := rfl
set_option maxRecDepth 65536 in
theorem w_room : about1.hasRoom e0.platform room_1 = true :=
  launch0.hasRoom_least _ room_1 (by decide +kernel) (by decide +kernel) (by decide +kernel) (by decide +kernel) (by decide +kernel) (by decide +kernel)
theorem allAtoms_all (ts : List Jvm.Cond) (a : Array Jvm.Value) (st : Jvm.State) : (allAtoms ts).before a st = ts.all (fun c => c.before a st) := by
  induction ts with
  | nil => rfl
  | cons c t ih =>
    show (Jvm.Cond.and c (allAtoms t)).before a st = _
    rw [Jvm.Cond.before_and, ih, List.all_cons]
def words1 : List Jvm.Cond := Jvm.Cond.code x code maxLocals ret :: tables_1
/-- a 'code' word, met by the world's own term for the bytes: nothing is compared byte by byte -/
theorem code_word {y : MethodName} {bytes : ByteArray} {mx : Nat} {rt : Option FieldType} {a : Array Value} {s : State} {m : MethodId} {meth : Method} {c : Code} (h1 : s.methodNamed? y = some m) (h2 : s.vm.method? m = some meth) (h3 : meth.code = some c) (h4 : c.code = bytes)
    (h5 : (c.maxLocals == mx && c.exceptionTable.isEmpty && decide (c.maxStack ≤ mostOperands) && decide (meth.sig.returnType = rt) && !meth.locks && decide (parseMethodDescriptor y.desc = some meth.sig)) = true) : (Jvm.Cond.code y bytes mx rt).before a s = true := by
  simp only [Bool.and_eq_true, beq_iff_eq, Bool.not_eq_true', decide_eq_true_eq] at h5
  obtain ⟨⟨⟨⟨⟨g1, g2⟩, g3⟩, g4⟩, g5⟩, g6⟩ := h5
  simp [Cond.before, Cond.holds, Cond.value, h1, h2, h3, h4, g1, g2, g3, g4, g5, g6]
def isCode : Jvm.Cond → Bool
  | .code _ _ _ _ => true
  | _ => false
theorem all_split {L : List Jvm.Cond} {P : Jvm.Cond → Bool} (h1 : L.all (fun c => isCode c || P c) = true) (h2 : ∀ c ∈ L.filter isCode, P c = true) : L.all P = true := by
  refine List.all_eq_true.mpr fun c hc => ?_
  have h := List.all_eq_true.mp h1 c hc
  rcases Bool.eq_false_or_eq_true (isCode c) with hi | hi
  · exact h2 c (List.mem_filter.mpr ⟨hc, hi⟩)
  · simpa [hi] using h
set_option maxRecDepth 65536 in
theorem w_c0 : (Jvm.Cond.code x code maxLocals ret).before args0 about1 = true := code_word (m := ⟨1, 1⟩) (meth := k1m1) (c := k1c1) (by decide +kernel) rfl rfl rfl (by decide +kernel)
set_option maxRecDepth 65536 in
theorem w_c1 : (Jvm.Cond.code ({ cls := "com/example/qbvious/qbvious/model/Figures", name := "<init>", desc := "(JJJ)V" } : Jvm.MethodName) prog_25_method_1_code (7 : Nat) (Option.none : Option Jvm.ClassFile.FieldType)).before args0 about1 = true := code_word (m := ⟨2, 0⟩) (meth := k2m0) (c := k2c0) (by decide +kernel) rfl rfl rfl (by decide +kernel)
set_option maxRecDepth 65536 in
theorem w_c2 : (Jvm.Cond.code ({ cls := "java/lang/Object", name := "<init>", desc := "()V" } : Jvm.MethodName) object_method_1_code (1 : Nat) (Option.none : Option Jvm.ClassFile.FieldType)).before args0 about1 = true := code_word (m := ⟨0, 0⟩) (meth := k0m0) (c := k0c0) (by decide +kernel) rfl rfl rfl (by decide +kernel)
set_option maxRecDepth 65536 in
theorem w_c3 : (Jvm.Cond.code ({ cls := "com/example/qbvious/qbvious/model/Figures", name := "equals", desc := "(Ljava/lang/Object;)Z" } : Jvm.MethodName) prog_25_method_5_code (3 : Nat) (Option.some Jvm.ClassFile.FieldType.boolean)).before args0 about1 = true := code_word (m := ⟨2, 1⟩) (meth := k2m1) (c := k2c1) (by decide +kernel) rfl rfl rfl (by decide +kernel)
set_option maxRecDepth 65536 in
theorem w_c4 : (Jvm.Cond.code ({ cls := "java/lang/Long", name := "valueOf", desc := "(J)Ljava/lang/Long;" } : Jvm.MethodName) jdk_35_method_24_code (3 : Nat) (Option.some (Jvm.ClassFile.FieldType.object "java/lang/Long"))).before args0 about1 = true := code_word (m := ⟨8, 0⟩) (meth := k8m0) (c := k8c0) (by decide +kernel) rfl rfl rfl (by decide +kernel)
set_option maxRecDepth 65536 in
theorem w_c5 : (Jvm.Cond.code ({ cls := "java/lang/Long", name := "<init>", desc := "(J)V" } : Jvm.MethodName) jdk_35_method_26_code (3 : Nat) (Option.none : Option Jvm.ClassFile.FieldType)).before args0 about1 = true := code_word (m := ⟨8, 1⟩) (meth := k8m1) (c := k8c1) (by decide +kernel) rfl rfl rfl (by decide +kernel)
set_option maxRecDepth 65536 in
theorem w_c6 : (Jvm.Cond.code ({ cls := "java/lang/Number", name := "<init>", desc := "()V" } : Jvm.MethodName) jdk_18_method_1_code (1 : Nat) (Option.none : Option Jvm.ClassFile.FieldType)).before args0 about1 = true := code_word (m := ⟨4, 0⟩) (meth := k4m0) (c := k4c0) (by decide +kernel) rfl rfl rfl (by decide +kernel)
def codes1 : List Jvm.Cond := [Jvm.Cond.code x code maxLocals ret, Jvm.Cond.code ({ cls := "com/example/qbvious/qbvious/model/Figures", name := "<init>", desc := "(JJJ)V" } : Jvm.MethodName) prog_25_method_1_code (7 : Nat) (Option.none : Option Jvm.ClassFile.FieldType), Jvm.Cond.code ({ cls := "java/lang/Object", name := "<init>", desc := "()V" } : Jvm.MethodName) object_method_1_code (1 : Nat) (Option.none : Option Jvm.ClassFile.FieldType), Jvm.Cond.code ({ cls := "com/example/qbvious/qbvious/model/Figures", name := "equals", desc := "(Ljava/lang/Object;)Z" } : Jvm.MethodName) prog_25_method_5_code (3 : Nat) (Option.some Jvm.ClassFile.FieldType.boolean), Jvm.Cond.code ({ cls := "java/lang/Long", name := "valueOf", desc := "(J)Ljava/lang/Long;" } : Jvm.MethodName) jdk_35_method_24_code (3 : Nat) (Option.some (Jvm.ClassFile.FieldType.object "java/lang/Long")), Jvm.Cond.code ({ cls := "java/lang/Long", name := "<init>", desc := "(J)V" } : Jvm.MethodName) jdk_35_method_26_code (3 : Nat) (Option.none : Option Jvm.ClassFile.FieldType), Jvm.Cond.code ({ cls := "java/lang/Number", name := "<init>", desc := "()V" } : Jvm.MethodName) jdk_18_method_1_code (1 : Nat) (Option.none : Option Jvm.ClassFile.FieldType)]
set_option maxRecDepth 65536 in
theorem codes_eq : words1.filter isCode = codes1 := rfl
theorem w_codes : ∀ c ∈ words1.filter isCode, c.before args0 about1 = true := by
  rw [codes_eq]
  intro c hc
  simp only [codes1, List.mem_cons, List.not_mem_nil, or_false] at hc
  rcases hc with rfl | rfl | rfl | rfl | rfl | rfl | rfl
  · exact w_c0
  · exact w_c1
  · exact w_c2
  · exact w_c3
  · exact w_c4
  · exact w_c5
  · exact w_c6
set_option maxRecDepth 65536 in
theorem w_t1 : (words1.take 24).all (fun c => isCode c || c.before args0 about1) = true := by decide +kernel
set_option maxRecDepth 65536 in
theorem w_t2 : ((words1.drop 24).take 24).all (fun c => isCode c || c.before args0 about1) = true := by decide +kernel
set_option maxRecDepth 65536 in
theorem w_t3 : ((words1.drop 24).drop 24).all (fun c => isCode c || c.before args0 about1) = true := by decide +kernel
theorem w_tables : (allAtoms (Jvm.Cond.code x code maxLocals ret :: tables_1)).before args0 about1 = true := by
  rw [allAtoms_all]
  show words1.all (fun c => c.before args0 about1) = true
  refine all_split ?_ w_codes
  rw [← List.take_append_drop 24 words1, List.all_append, w_t1, ← List.take_append_drop 24 (words1.drop 24), List.all_append, w_t2, w_t3]
  rfl
set_option maxRecDepth 65536 in
theorem w_rest : rest_1_c.before args0 about1 = true := by decide +kernel
set_option maxRecDepth 65536 in
theorem w_case : (Jvm.Cond.and given_1 narrow_1).before args0 about1 = true := by decide +kernel
theorem w_applies : (headSpec (Jvm.Cond.code x code maxLocals ret :: tables_1) room_1).applies x e0.platform about1 = true :=
  (Spec.applies_iff w_frames).mpr ⟨w_running, w_runnable, w_alone, w_named, w_hears, w_ripe, w_room, w_tables⟩
theorem atStart : AtStart classFile x code maxLocals ret World_1 tables_1 room_1 Calls_1 rest_1 Pre_1 launch0 p0 e0 about1 theMethod args0 below0 :=
  ⟨lists_1, trivial, launch0.admits_env _ _ _, launch0.least_env, fairChoices_fair.cas, fairChoices_fair.clock, w_frames, w_args, w_heap, w_applies, trivial, w_rest, w_case⟩
end start1
theorem witness_1 : WitnessClaimed_1 := ⟨start1.p0, start1.e0, start1.about1, start1.theMethod, start1.args0, start1.below0, start1.atStart⟩
end Jvm.Pilot.@@N@@
