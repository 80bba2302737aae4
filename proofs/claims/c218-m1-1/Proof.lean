import JvmDerived
import JvmDerived.Pilot.@@N@@Statement
import JvmDerived.Pilot.@@N@@Code
set_option linter.unusedVariables false
set_option linter.unusedSimpArgs false
namespace Jvm.EKit
open Sem ClassFile Op Lib Jvm.Stand Jvm.Free Jvm.LawKit Jvm.RoadKit
/-- from the frame F at T the body comes to a return that answers Q -/
def Ends (p : Program) (l : Launch) (e : Env) (R : Room) (s : State) (m : MethodId) (args : Array Value) (below : List Frame) (meth : Method) (c : Code) (C S : Nat) (Q : Option Value → Heap → List Loc → Prop) (T : State) (F : JFrame) : Prop :=
  ∃ (T' : State) (locs : List Loc) (cells slots : Nat) (v : Option Value), Stand p l e R s m args below meth c T' locs cells slots ∧ Q v T'.heap locs ∧ cells ≤ C ∧ slots ≤ S ∧ (meth.sig.returnType = none → v = none) ∧
    ∀ fs, (∀ (f : JFrame) (acts : List Action), f.method = m → f.locked = none → f.entered = [] → (doReturn e (T'.setTop f) acts v).1 = T'.setFrames fs) → Steps p.tables e below (T.setTop F) (T'.setFrames fs)
/-- the contract of a body -/
def Pays (l : Launch) (Z : State) (y : MethodName) (bytes : ByteArray) (maxL : Nat) (ret : Option FieldType) (ws : List Jvm.Cond) (rm : Room) (as' : Array Value) (h : Heap) (Q : Option Value → Heap → List Loc → Prop) : Prop :=
  MetFree l y (head1 (Jvm.Cond.code y bytes maxL ret :: ws) rm) (fun a U => a = as' ∧ Z.Warmed39 U.vm ∧ U.heap = h) (fun _ _ _ _ _ => True) (fun _ U o U' => ∃ v L, o = .returned v ∧ Q v U'.heap L ∧ FrameEnd U o U' L rm.cells rm.slots)
/-- it returns V and writes nothing -/
def RetQ (V : Option Value) (h : Heap) : Option Value → Heap → List Loc → Prop := fun v h' L => v = V ∧ h' = h ∧ L = []
section
variable {p : Program} {l : Launch} {e : Env} {R : Room} {s : State} {m : MethodId} {args : Array Value} {below : List Frame} {meth : Method} {c : Code} {T : State} {locs : List Loc} {cells slots : Nat} {C S : Nat} {Q : Option Value → Heap → List Loc → Prop} {pc q : Nat} {Ls : Array Slot} {st rest : List Value}
theorem step {T1 : State} {F F1 : JFrame} (h : ∀ t, Steps p.tables e below (T1.setTop F1) t → Steps p.tables e below (T.setTop F) t) (k : Ends p l e R s m args below meth c C S Q T1 F1) : Ends p l e R s m args below meth c C S Q T F := by
  obtain ⟨T', locs, cells, slots, v, h1, h2, h3, h4, h5, h6⟩ := k
  exact ⟨T', locs, cells, slots, v, h1, h2, h3, h4, h5, fun fs hl => h _ (h6 fs hl)⟩
theorem pays {Z : State} {y : MethodName} {bytes : ByteArray} {maxL : Nat} {ret : Option FieldType} {ws : List Jvm.Cond} {rm : Room} {as' : Array Value} {h : Heap} (hpl : plainFor y = true) {F0 : MethodId → JFrame} (hF : ∀ m, entryFrame m as' maxL = F0 m)
    (k : ∀ (p : Program) (e : Env) (s : State) (m : MethodId) (below : List Frame) (meth : Method) (c : Code) (s₁ : State), p.tables.exec = Jvm.exec → c.code = bytes → c.maxLocals = maxL → Z.Warmed39 s.vm → s.vm.findClass y.cls = some m.cls → meth.name = y.name → meth.sig.returnType = ret → Stand p l e rm s m as' below meth c s₁ [] 0 0 → s₁.heap = h → s.heap = h →
      Ends p l e rm s m as' below meth c rm.cells rm.slots Q s₁ (F0 m)) : Pays l Z y bytes maxL ret ws rm as' h Q := by
  refine MetFree.of_bodySF hpl hisR ?_
  intro p e s m args below meth c s₁ Bd hml0 hP hK
  obtain ⟨rfl, hZ, hh⟩ := hP
  obtain ⟨T', locs, cells, slots, v, X, hQ, h3, h4, h5, h6⟩ := k p e s m below meth c s₁ Bd.exec Bd.bytes hml0 hZ (findClass_of_methodNamed Bd.named) (name_of_methodNamed Bd.named Bd.method).1 Bd.returns (Stand.of_body Bd) (by rw [← hh, Bd.state]; rfl) hh
  obtain ⟨fs, hr, hrun, hended, hW, hsame⟩ := X.leave (v := v) h5
  exact ⟨_, _, castTop (hF m) (h6 fs hr), hrun, hended, v, locs, rfl, hQ, ⟨_, rfl⟩, hW, hsame.mono h3 h4⟩
theorem iloadN (X : Stand p l e R s m args below meth c T locs cells slots) (hx : p.tables.exec = Jvm.exec) {k0 : Fin 4} {v : Int32} (hl : Ls[k0.val]? = some (.val (.int v))) (hd : decode c.code pc = .ok (.iload_n k0, 1)) (hq : pc + 1 = q) (k : Ends p l e R s m args below meth c C S Q T (mkF m q Ls (.int v :: st))) : Ends p l e R s m args below meth c C S Q T (mkF m pc Ls (st)) := step (fun _ h => by subst hq; exact XS.iloadN X.here hx rfl hd hl h) k
theorem iload (X : Stand p l e R s m args below meth c T locs cells slots) (hx : p.tables.exec = Jvm.exec) {k0 : Nat} {v : Int32} (hl : Ls[k0]? = some (.val (.int v))) (hd : decode c.code pc = .ok (.iload k0, 2)) (hq : pc + 2 = q) (k : Ends p l e R s m args below meth c C S Q T (mkF m q Ls (.int v :: st))) : Ends p l e R s m args below meth c C S Q T (mkF m pc Ls (st)) := step (fun _ h => by subst hq; exact XS.iload X.here hx rfl hd hl h) k
theorem istoreN (X : Stand p l e R s m args below meth c T locs cells slots) (hx : p.tables.exec = Jvm.exec) {k0 : Fin 4} {v : Int32} {l' : Array Slot} (hl : storeLocals Ls k0.val (.int v) = some l') (hd : decode c.code pc = .ok (.istore_n k0, 1)) (hq : pc + 1 = q) (k : Ends p l e R s m args below meth c C S Q T (mkF m q l' (st))) : Ends p l e R s m args below meth c C S Q T (mkF m pc Ls (.int v :: st)) := step (fun _ h => by subst hq; exact XS.istoreN X.here hx rfl hd rfl hl h) k
theorem istore (X : Stand p l e R s m args below meth c T locs cells slots) (hx : p.tables.exec = Jvm.exec) {k0 : Nat} {v : Int32} {l' : Array Slot} (hl : storeLocals Ls k0 (.int v) = some l') (hd : decode c.code pc = .ok (.istore k0, 2)) (hq : pc + 2 = q) (k : Ends p l e R s m args below meth c C S Q T (mkF m q l' (st))) : Ends p l e R s m args below meth c C S Q T (mkF m pc Ls (.int v :: st)) := step (fun _ h => by subst hq; exact XS.istore X.here hx rfl hd rfl hl h) k
theorem lloadN (X : Stand p l e R s m args below meth c T locs cells slots) (hx : p.tables.exec = Jvm.exec) {k0 : Fin 4} {v : Int64} (hl : Ls[k0.val]? = some (.val (.long v))) (hd : decode c.code pc = .ok (.lload_n k0, 1)) (hq : pc + 1 = q) (k : Ends p l e R s m args below meth c C S Q T (mkF m q Ls (.long v :: st))) : Ends p l e R s m args below meth c C S Q T (mkF m pc Ls (st)) := step (fun _ h => by subst hq; exact XS.lloadN X.here hx rfl hd hl h) k
theorem lload (X : Stand p l e R s m args below meth c T locs cells slots) (hx : p.tables.exec = Jvm.exec) {k0 : Nat} {v : Int64} (hl : Ls[k0]? = some (.val (.long v))) (hd : decode c.code pc = .ok (.lload k0, 2)) (hq : pc + 2 = q) (k : Ends p l e R s m args below meth c C S Q T (mkF m q Ls (.long v :: st))) : Ends p l e R s m args below meth c C S Q T (mkF m pc Ls (st)) := step (fun _ h => by subst hq; exact XS.lload X.here hx rfl hd hl h) k
theorem lstoreN (X : Stand p l e R s m args below meth c T locs cells slots) (hx : p.tables.exec = Jvm.exec) {k0 : Fin 4} {v : Int64} {l' : Array Slot} (hl : storeLocals Ls k0.val (.long v) = some l') (hd : decode c.code pc = .ok (.lstore_n k0, 1)) (hq : pc + 1 = q) (k : Ends p l e R s m args below meth c C S Q T (mkF m q l' (st))) : Ends p l e R s m args below meth c C S Q T (mkF m pc Ls (.long v :: st)) := step (fun _ h => by subst hq; exact XS.lstoreN X.here hx rfl hd rfl hl h) k
theorem lstore (X : Stand p l e R s m args below meth c T locs cells slots) (hx : p.tables.exec = Jvm.exec) {k0 : Nat} {v : Int64} {l' : Array Slot} (hl : storeLocals Ls k0 (.long v) = some l') (hd : decode c.code pc = .ok (.lstore k0, 2)) (hq : pc + 2 = q) (k : Ends p l e R s m args below meth c C S Q T (mkF m q l' (st))) : Ends p l e R s m args below meth c C S Q T (mkF m pc Ls (.long v :: st)) := step (fun _ h => by subst hq; exact XS.lstore X.here hx rfl hd rfl hl h) k
theorem aloadN (X : Stand p l e R s m args below meth c T locs cells slots) (hx : p.tables.exec = Jvm.exec) {k0 : Fin 4} {v : Value} (hl : Ls[k0.val]? = some (.val v)) (hv : v.isRef = true) (hd : decode c.code pc = .ok (.aload_n k0, 1)) (hq : pc + 1 = q) (k : Ends p l e R s m args below meth c C S Q T (mkF m q Ls (v :: st))) : Ends p l e R s m args below meth c C S Q T (mkF m pc Ls (st)) := step (fun _ h => by subst hq; exact XS.aloadN X.here hx rfl hd hl hv h) k
theorem aload (X : Stand p l e R s m args below meth c T locs cells slots) (hx : p.tables.exec = Jvm.exec) {k0 : Nat} {v : Value} (hl : Ls[k0]? = some (.val v)) (hv : v.isRef = true) (hd : decode c.code pc = .ok (.aload k0, 2)) (hq : pc + 2 = q) (k : Ends p l e R s m args below meth c C S Q T (mkF m q Ls (v :: st))) : Ends p l e R s m args below meth c C S Q T (mkF m pc Ls (st)) := step (fun _ h => by subst hq; exact XS.aload X.here hx rfl hd hl hv h) k
theorem astoreN (X : Stand p l e R s m args below meth c T locs cells slots) (hx : p.tables.exec = Jvm.exec) {k0 : Fin 4} {v : Value} {l' : Array Slot} (hv : v.isRef = true) (hl : storeLocals Ls k0.val v = some l') (hd : decode c.code pc = .ok (.astore_n k0, 1)) (hq : pc + 1 = q) (k : Ends p l e R s m args below meth c C S Q T (mkF m q l' (st))) : Ends p l e R s m args below meth c C S Q T (mkF m pc Ls (v :: st)) := step (fun _ h => by subst hq; exact XS.astoreN X.here hx rfl hd rfl hv hl h) k
theorem astore (X : Stand p l e R s m args below meth c T locs cells slots) (hx : p.tables.exec = Jvm.exec) {k0 : Nat} {v : Value} {l' : Array Slot} (hv : v.isRef = true) (hl : storeLocals Ls k0 v = some l') (hd : decode c.code pc = .ok (.astore k0, 2)) (hq : pc + 2 = q) (k : Ends p l e R s m args below meth c C S Q T (mkF m q l' (st))) : Ends p l e R s m args below meth c C S Q T (mkF m pc Ls (v :: st)) := step (fun _ h => by subst hq; exact XS.astore X.here hx rfl hd rfl hv hl h) k
theorem iconst (X : Stand p l e R s m args below meth c T locs cells slots) (hx : p.tables.exec = Jvm.exec) {i : Int} {v : Int32} (hv : Int32.ofInt i = v) (hd : decode c.code pc = .ok (.iconst i, 1)) (hq : pc + 1 = q) (k : Ends p l e R s m args below meth c C S Q T (mkF m q Ls (.int v :: st))) : Ends p l e R s m args below meth c C S Q T (mkF m pc Ls (st)) := step (fun _ h => by subst hq; exact XS.iconst X.here hx rfl hd (by rw [hv]; exact h)) k
theorem bipush (X : Stand p l e R s m args below meth c T locs cells slots) (hx : p.tables.exec = Jvm.exec) {i : Int} {v : Int32} (hv : (Int8.ofInt i).toInt32 = v) (hd : decode c.code pc = .ok (.bipush i, 2)) (hq : pc + 2 = q) (k : Ends p l e R s m args below meth c C S Q T (mkF m q Ls (.int v :: st))) : Ends p l e R s m args below meth c C S Q T (mkF m pc Ls (st)) := step (fun _ h => by subst hq; exact XS.bipush X.here hx rfl hd (by rw [hv]; exact h)) k
theorem sipush (X : Stand p l e R s m args below meth c T locs cells slots) (hx : p.tables.exec = Jvm.exec) {i : Int} {v : Int32} (hv : (Int16.ofInt i).toInt32 = v) (hd : decode c.code pc = .ok (.sipush i, 3)) (hq : pc + 3 = q) (k : Ends p l e R s m args below meth c C S Q T (mkF m q Ls (.int v :: st))) : Ends p l e R s m args below meth c C S Q T (mkF m pc Ls (st)) := step (fun _ h => by subst hq; exact XS.sipush X.here hx rfl hd (by rw [hv]; exact h)) k
theorem lconst (X : Stand p l e R s m args below meth c T locs cells slots) (hx : p.tables.exec = Jvm.exec) {i : Fin 2} {v : Int64} (hv : Int64.ofNat i = v) (hd : decode c.code pc = .ok (.lconst i, 1)) (hq : pc + 1 = q) (k : Ends p l e R s m args below meth c C S Q T (mkF m q Ls (.long v :: st))) : Ends p l e R s m args below meth c C S Q T (mkF m pc Ls (st)) := step (fun _ h => by subst hq; exact XS.lconst X.here hx rfl hd (by rw [hv]; exact h)) k
theorem aconstNull (X : Stand p l e R s m args below meth c T locs cells slots) (hx : p.tables.exec = Jvm.exec)  (hd : decode c.code pc = .ok (.aconst_null, 1)) (hq : pc + 1 = q) (k : Ends p l e R s m args below meth c C S Q T (mkF m q Ls (.null :: st))) : Ends p l e R s m args below meth c C S Q T (mkF m pc Ls (st)) := step (fun _ h => by subst hq; exact XS.aconstNull X.here hx rfl hd h) k
theorem iadd (X : Stand p l e R s m args below meth c T locs cells slots) (hx : p.tables.exec = Jvm.exec) {x y : Int32} (hd : decode c.code pc = .ok (.iadd, 1)) (hq : pc + 1 = q) (k : Ends p l e R s m args below meth c C S Q T (mkF m q Ls (.int (x + y) :: st))) : Ends p l e R s m args below meth c C S Q T (mkF m pc Ls (.int y :: .int x :: st)) := step (fun _ h => by subst hq; exact XS.iadd X.here hx rfl hd rfl h) k
theorem isub (X : Stand p l e R s m args below meth c T locs cells slots) (hx : p.tables.exec = Jvm.exec) {x y : Int32} (hd : decode c.code pc = .ok (.isub, 1)) (hq : pc + 1 = q) (k : Ends p l e R s m args below meth c C S Q T (mkF m q Ls (.int (x - y) :: st))) : Ends p l e R s m args below meth c C S Q T (mkF m pc Ls (.int y :: .int x :: st)) := step (fun _ h => by subst hq; exact XS.isub X.here hx rfl hd rfl h) k
theorem imul (X : Stand p l e R s m args below meth c T locs cells slots) (hx : p.tables.exec = Jvm.exec) {x y : Int32} (hd : decode c.code pc = .ok (.imul, 1)) (hq : pc + 1 = q) (k : Ends p l e R s m args below meth c C S Q T (mkF m q Ls (.int (x * y) :: st))) : Ends p l e R s m args below meth c C S Q T (mkF m pc Ls (.int y :: .int x :: st)) := step (fun _ h => by subst hq; exact XS.imul X.here hx rfl hd rfl h) k
theorem iand (X : Stand p l e R s m args below meth c T locs cells slots) (hx : p.tables.exec = Jvm.exec) {x y : Int32} (hd : decode c.code pc = .ok (.iand, 1)) (hq : pc + 1 = q) (k : Ends p l e R s m args below meth c C S Q T (mkF m q Ls (.int (x &&& y) :: st))) : Ends p l e R s m args below meth c C S Q T (mkF m pc Ls (.int y :: .int x :: st)) := step (fun _ h => by subst hq; exact XS.iand X.here hx rfl hd rfl h) k
theorem ior (X : Stand p l e R s m args below meth c T locs cells slots) (hx : p.tables.exec = Jvm.exec) {x y : Int32} (hd : decode c.code pc = .ok (.ior, 1)) (hq : pc + 1 = q) (k : Ends p l e R s m args below meth c C S Q T (mkF m q Ls (.int (x ||| y) :: st))) : Ends p l e R s m args below meth c C S Q T (mkF m pc Ls (.int y :: .int x :: st)) := step (fun _ h => by subst hq; exact XS.ior X.here hx rfl hd rfl h) k
theorem ixor (X : Stand p l e R s m args below meth c T locs cells slots) (hx : p.tables.exec = Jvm.exec) {x y : Int32} (hd : decode c.code pc = .ok (.ixor, 1)) (hq : pc + 1 = q) (k : Ends p l e R s m args below meth c C S Q T (mkF m q Ls (.int (x ^^^ y) :: st))) : Ends p l e R s m args below meth c C S Q T (mkF m pc Ls (.int y :: .int x :: st)) := step (fun _ h => by subst hq; exact XS.ixor X.here hx rfl hd rfl h) k
theorem ineg (X : Stand p l e R s m args below meth c T locs cells slots) (hx : p.tables.exec = Jvm.exec) {x : Int32} (hd : decode c.code pc = .ok (.ineg, 1)) (hq : pc + 1 = q) (k : Ends p l e R s m args below meth c C S Q T (mkF m q Ls (.int (-x) :: st))) : Ends p l e R s m args below meth c C S Q T (mkF m pc Ls (.int x :: st)) := step (fun _ h => by subst hq; exact XS.ineg X.here hx rfl hd rfl h) k
theorem idiv (X : Stand p l e R s m args below meth c T locs cells slots) (hx : p.tables.exec = Jvm.exec) {x y : Int32} (hy : y ≠ 0) (hd : decode c.code pc = .ok (.idiv, 1)) (hq : pc + 1 = q) (k : Ends p l e R s m args below meth c C S Q T (mkF m q Ls (.int (x / y) :: st))) : Ends p l e R s m args below meth c C S Q T (mkF m pc Ls (.int y :: .int x :: st)) := step (fun _ h => by subst hq; exact XS.idiv X.here hx rfl hd rfl hy h) k
theorem ladd (X : Stand p l e R s m args below meth c T locs cells slots) (hx : p.tables.exec = Jvm.exec) {x y : Int64} (hd : decode c.code pc = .ok (.ladd, 1)) (hq : pc + 1 = q) (k : Ends p l e R s m args below meth c C S Q T (mkF m q Ls (.long (x + y) :: st))) : Ends p l e R s m args below meth c C S Q T (mkF m pc Ls (.long y :: .long x :: st)) := step (fun _ h => by subst hq; exact XS.ladd X.here hx rfl hd rfl h) k
theorem lsub (X : Stand p l e R s m args below meth c T locs cells slots) (hx : p.tables.exec = Jvm.exec) {x y : Int64} (hd : decode c.code pc = .ok (.lsub, 1)) (hq : pc + 1 = q) (k : Ends p l e R s m args below meth c C S Q T (mkF m q Ls (.long (x - y) :: st))) : Ends p l e R s m args below meth c C S Q T (mkF m pc Ls (.long y :: .long x :: st)) := step (fun _ h => by subst hq; exact XS.lsub X.here hx rfl hd rfl h) k
theorem lmul (X : Stand p l e R s m args below meth c T locs cells slots) (hx : p.tables.exec = Jvm.exec) {x y : Int64} (hd : decode c.code pc = .ok (.lmul, 1)) (hq : pc + 1 = q) (k : Ends p l e R s m args below meth c C S Q T (mkF m q Ls (.long (x * y) :: st))) : Ends p l e R s m args below meth c C S Q T (mkF m pc Ls (.long y :: .long x :: st)) := step (fun _ h => by subst hq; exact XS.lmul X.here hx rfl hd rfl h) k
theorem land (X : Stand p l e R s m args below meth c T locs cells slots) (hx : p.tables.exec = Jvm.exec) {x y : Int64} (hd : decode c.code pc = .ok (.land, 1)) (hq : pc + 1 = q) (k : Ends p l e R s m args below meth c C S Q T (mkF m q Ls (.long (x &&& y) :: st))) : Ends p l e R s m args below meth c C S Q T (mkF m pc Ls (.long y :: .long x :: st)) := step (fun _ h => by subst hq; exact XS.land X.here hx rfl hd rfl h) k
theorem lor (X : Stand p l e R s m args below meth c T locs cells slots) (hx : p.tables.exec = Jvm.exec) {x y : Int64} (hd : decode c.code pc = .ok (.lor, 1)) (hq : pc + 1 = q) (k : Ends p l e R s m args below meth c C S Q T (mkF m q Ls (.long (x ||| y) :: st))) : Ends p l e R s m args below meth c C S Q T (mkF m pc Ls (.long y :: .long x :: st)) := step (fun _ h => by subst hq; exact XS.lor X.here hx rfl hd rfl h) k
theorem lxor (X : Stand p l e R s m args below meth c T locs cells slots) (hx : p.tables.exec = Jvm.exec) {x y : Int64} (hd : decode c.code pc = .ok (.lxor, 1)) (hq : pc + 1 = q) (k : Ends p l e R s m args below meth c C S Q T (mkF m q Ls (.long (x ^^^ y) :: st))) : Ends p l e R s m args below meth c C S Q T (mkF m pc Ls (.long y :: .long x :: st)) := step (fun _ h => by subst hq; exact XS.lxor X.here hx rfl hd rfl h) k
theorem lneg (X : Stand p l e R s m args below meth c T locs cells slots) (hx : p.tables.exec = Jvm.exec) {x : Int64} (hd : decode c.code pc = .ok (.lneg, 1)) (hq : pc + 1 = q) (k : Ends p l e R s m args below meth c C S Q T (mkF m q Ls (.long (-x) :: st))) : Ends p l e R s m args below meth c C S Q T (mkF m pc Ls (.long x :: st)) := step (fun _ h => by subst hq; exact XS.lneg X.here hx rfl hd rfl h) k
theorem ldiv (X : Stand p l e R s m args below meth c T locs cells slots) (hx : p.tables.exec = Jvm.exec) {x y : Int64} (hy : y ≠ 0) (hd : decode c.code pc = .ok (.ldiv, 1)) (hq : pc + 1 = q) (k : Ends p l e R s m args below meth c C S Q T (mkF m q Ls (.long (x / y) :: st))) : Ends p l e R s m args below meth c C S Q T (mkF m pc Ls (.long y :: .long x :: st)) := step (fun _ h => by subst hq; exact XS.ldiv X.here hx rfl hd rfl hy h) k
theorem irem (X : Stand p l e R s m args below meth c T locs cells slots) (hx : p.tables.exec = Jvm.exec) {x y : Int32} (hy : y ≠ 0) (hd : decode c.code pc = .ok (.irem, 1)) (hq : pc + 1 = q) (k : Ends p l e R s m args below meth c C S Q T (mkF m q Ls (.int (x % y) :: st))) : Ends p l e R s m args below meth c C S Q T (mkF m pc Ls (.int y :: .int x :: st)) := step (fun _ h => by subst hq; exact iremM X hx rfl hd rfl hy h) k
theorem lrem (X : Stand p l e R s m args below meth c T locs cells slots) (hx : p.tables.exec = Jvm.exec) {x y : Int64} (hy : y ≠ 0) (hd : decode c.code pc = .ok (.lrem, 1)) (hq : pc + 1 = q) (k : Ends p l e R s m args below meth c C S Q T (mkF m q Ls (.long (x % y) :: st))) : Ends p l e R s m args below meth c C S Q T (mkF m pc Ls (.long y :: .long x :: st)) := step (fun _ h => by subst hq; exact XS.lrem X.here hx rfl hd rfl hy (by rw [lrem_mod]; exact h)) k
theorem ishl (X : Stand p l e R s m args below meth c T locs cells slots) (hx : p.tables.exec = Jvm.exec) {x : Int32} {y : Int32} (hd : decode c.code pc = .ok (.ishl, 1)) (hq : pc + 1 = q) (k : Ends p l e R s m args below meth c C S Q T (mkF m q Ls (.int (x <<< (y &&& 31)) :: st))) : Ends p l e R s m args below meth c C S Q T (mkF m pc Ls (.int y :: .int x :: st)) := step (fun _ h => by subst hq; exact XS.ishl X.here hx rfl hd rfl h) k
theorem ishr (X : Stand p l e R s m args below meth c T locs cells slots) (hx : p.tables.exec = Jvm.exec) {x : Int32} {y : Int32} (hd : decode c.code pc = .ok (.ishr, 1)) (hq : pc + 1 = q) (k : Ends p l e R s m args below meth c C S Q T (mkF m q Ls (.int (x >>> (y &&& 31)) :: st))) : Ends p l e R s m args below meth c C S Q T (mkF m pc Ls (.int y :: .int x :: st)) := step (fun _ h => by subst hq; exact XS.ishr X.here hx rfl hd rfl h) k
theorem iushr (X : Stand p l e R s m args below meth c T locs cells slots) (hx : p.tables.exec = Jvm.exec) {x : Int32} {y : Int32} (hd : decode c.code pc = .ok (.iushr, 1)) (hq : pc + 1 = q) (k : Ends p l e R s m args below meth c C S Q T (mkF m q Ls (.int ((x.toUInt32 >>> (y &&& 31).toUInt32).toInt32) :: st))) : Ends p l e R s m args below meth c C S Q T (mkF m pc Ls (.int y :: .int x :: st)) := step (fun _ h => by subst hq; exact XS.iushr X.here hx rfl hd rfl h) k
theorem lshl (X : Stand p l e R s m args below meth c T locs cells slots) (hx : p.tables.exec = Jvm.exec) {x : Int64} {y : Int32} (hd : decode c.code pc = .ok (.lshl, 1)) (hq : pc + 1 = q) (k : Ends p l e R s m args below meth c C S Q T (mkF m q Ls (.long (x <<< (y &&& 0x3f).toInt64) :: st))) : Ends p l e R s m args below meth c C S Q T (mkF m pc Ls (.int y :: .long x :: st)) := step (fun _ h => by subst hq; exact XS.lshl X.here hx rfl hd rfl h) k
theorem lshr (X : Stand p l e R s m args below meth c T locs cells slots) (hx : p.tables.exec = Jvm.exec) {x : Int64} {y : Int32} (hd : decode c.code pc = .ok (.lshr, 1)) (hq : pc + 1 = q) (k : Ends p l e R s m args below meth c C S Q T (mkF m q Ls (.long (x >>> (y &&& 0x3f).toInt64) :: st))) : Ends p l e R s m args below meth c C S Q T (mkF m pc Ls (.int y :: .long x :: st)) := step (fun _ h => by subst hq; exact XS.lshr X.here hx rfl hd rfl h) k
theorem lushr (X : Stand p l e R s m args below meth c T locs cells slots) (hx : p.tables.exec = Jvm.exec) {x : Int64} {y : Int32} (hd : decode c.code pc = .ok (.lushr, 1)) (hq : pc + 1 = q) (k : Ends p l e R s m args below meth c C S Q T (mkF m q Ls (.long ((x.toUInt64 >>> (y &&& 0x3f).toInt64.toUInt64).toInt64) :: st))) : Ends p l e R s m args below meth c C S Q T (mkF m pc Ls (.int y :: .long x :: st)) := step (fun _ h => by subst hq; exact XS.lushr X.here hx rfl hd rfl h) k
theorem i2l (X : Stand p l e R s m args below meth c T locs cells slots) (hx : p.tables.exec = Jvm.exec) {x : Int32} (hd : decode c.code pc = .ok (.i2l, 1)) (hq : pc + 1 = q) (k : Ends p l e R s m args below meth c C S Q T (mkF m q Ls (.long (x.toInt64) :: st))) : Ends p l e R s m args below meth c C S Q T (mkF m pc Ls (.int x :: st)) := step (fun _ h => by subst hq; exact XS.i2l X.here hx rfl hd rfl h) k
theorem l2i (X : Stand p l e R s m args below meth c T locs cells slots) (hx : p.tables.exec = Jvm.exec) {x : Int64} (hd : decode c.code pc = .ok (.l2i, 1)) (hq : pc + 1 = q) (k : Ends p l e R s m args below meth c C S Q T (mkF m q Ls (.int (x.toInt32) :: st))) : Ends p l e R s m args below meth c C S Q T (mkF m pc Ls (.long x :: st)) := step (fun _ h => by subst hq; exact XS.l2i X.here hx rfl hd rfl h) k
theorem i2b (X : Stand p l e R s m args below meth c T locs cells slots) (hx : p.tables.exec = Jvm.exec) {x : Int32} (hd : decode c.code pc = .ok (.i2b, 1)) (hq : pc + 1 = q) (k : Ends p l e R s m args below meth c C S Q T (mkF m q Ls (.int (x.toInt8.toInt32) :: st))) : Ends p l e R s m args below meth c C S Q T (mkF m pc Ls (.int x :: st)) := step (fun _ h => by subst hq; exact XS.i2b X.here hx rfl hd rfl h) k
theorem i2s (X : Stand p l e R s m args below meth c T locs cells slots) (hx : p.tables.exec = Jvm.exec) {x : Int32} (hd : decode c.code pc = .ok (.i2s, 1)) (hq : pc + 1 = q) (k : Ends p l e R s m args below meth c C S Q T (mkF m q Ls (.int (x.toInt16.toInt32) :: st))) : Ends p l e R s m args below meth c C S Q T (mkF m pc Ls (.int x :: st)) := step (fun _ h => by subst hq; exact XS.i2s X.here hx rfl hd rfl h) k
theorem i2c (X : Stand p l e R s m args below meth c T locs cells slots) (hx : p.tables.exec = Jvm.exec) {x : Int32} (hd : decode c.code pc = .ok (.i2c, 1)) (hq : pc + 1 = q) (k : Ends p l e R s m args below meth c C S Q T (mkF m q Ls (.int (x.toUInt32.toUInt16.toUInt32.toInt32) :: st))) : Ends p l e R s m args below meth c C S Q T (mkF m pc Ls (.int x :: st)) := step (fun _ h => by subst hq; exact XS.i2c X.here hx rfl hd rfl h) k
theorem lcmp (X : Stand p l e R s m args below meth c T locs cells slots) (hx : p.tables.exec = Jvm.exec) {x y : Int64} (hd : decode c.code pc = .ok (.lcmp, 1)) (hq : pc + 1 = q) (k : Ends p l e R s m args below meth c C S Q T (mkF m q Ls (.int (lcmpW x y) :: st))) : Ends p l e R s m args below meth c C S Q T (mkF m pc Ls (.long y :: .long x :: st)) := step (fun _ h => by subst hq; exact XS.lcmp X.here hx rfl hd rfl h) k
theorem dup (X : Stand p l e R s m args below meth c T locs cells slots) (hx : p.tables.exec = Jvm.exec) {v : Value} (hc : v.category = 1) (hd : decode c.code pc = .ok (.dup, 1)) (hq : pc + 1 = q) (k : Ends p l e R s m args below meth c C S Q T (mkF m q Ls (v :: v :: st))) : Ends p l e R s m args below meth c C S Q T (mkF m pc Ls (v :: st)) := step (fun _ h => by subst hq; exact XS.dup X.here hx rfl hd rfl hc h) k
theorem pop (X : Stand p l e R s m args below meth c T locs cells slots) (hx : p.tables.exec = Jvm.exec) {v : Value} (hc : v.category = 1) (hd : decode c.code pc = .ok (.pop, 1)) (hq : pc + 1 = q) (k : Ends p l e R s m args below meth c C S Q T (mkF m q Ls (st))) : Ends p l e R s m args below meth c C S Q T (mkF m pc Ls (v :: st)) := step (fun _ h => by subst hq; exact XS.pop X.here hx rfl hd rfl hc h) k
theorem iinc (X : Stand p l e R s m args below meth c T locs cells slots) (hx : p.tables.exec = Jvm.exec) {k0 : Nat} {cst : Int} {x v : Int32} {l' : Array Slot} (hl : Ls[k0]? = some (.val (.int x))) (hv : x + Int32.ofInt cst = v) (hl' : storeLocals Ls k0 (.int v) = some l') (hd : decode c.code pc = .ok (.iinc k0 cst, 3)) (hq : pc + 3 = q) (k : Ends p l e R s m args below meth c C S Q T (mkF m q l' (st))) : Ends p l e R s m args below meth c C S Q T (mkF m pc Ls (st)) := step (fun _ h => by subst hq; exact XS.iinc X.here hx rfl hd hl (by rw [hv]; exact hl') h) k
theorem goto (X : Stand p l e R s m args below meth c T locs cells slots) (hx : p.tables.exec = Jvm.exec) {o : Int}  (hd : decode c.code pc = .ok (.goto o, 3)) (ho : 0 ≤ (pc : Int) + o) (hq : ((pc : Int) + o).toNat = q) (k : Ends p l e R s m args below meth c C S Q T (mkF m q Ls (st))) : Ends p l e R s m args below meth c C S Q T (mkF m pc Ls (st)) := step (fun _ h => XS.goto X.here hx rfl rfl hd ho hq h) k
theorem ifYes (X : Stand p l e R s m args below meth c T locs cells slots) (hx : p.tables.exec = Jvm.exec) {o : Int} {cd : ClassFile.Cond} {x : Int32} (hc : ifCond.holds cd x = true) (hd : decode c.code pc = .ok (.ifCond cd o, 3)) (ho : 0 ≤ (pc : Int) + o) (hq : ((pc : Int) + o).toNat = q) (k : Ends p l e R s m args below meth c C S Q T (mkF m q Ls (st))) : Ends p l e R s m args below meth c C S Q T (mkF m pc Ls (.int x :: st)) := step (fun _ h => XS.ifYes X.here hx rfl rfl hd rfl hc ho hq h) k
theorem icmpYes (X : Stand p l e R s m args below meth c T locs cells slots) (hx : p.tables.exec = Jvm.exec) {o : Int} {cd : ClassFile.Cond} {x y : Int32} (hc : if_icmp.holds cd x y = true) (hd : decode c.code pc = .ok (.if_icmp cd o, 3)) (ho : 0 ≤ (pc : Int) + o) (hq : ((pc : Int) + o).toNat = q) (k : Ends p l e R s m args below meth c C S Q T (mkF m q Ls (st))) : Ends p l e R s m args below meth c C S Q T (mkF m pc Ls (.int y :: .int x :: st)) := step (fun _ h => XS.icmpYes X.here hx rfl rfl hd rfl hc ho hq h) k
theorem ifnullYes (X : Stand p l e R s m args below meth c T locs cells slots) (hx : p.tables.exec = Jvm.exec) {o : Int}  (hd : decode c.code pc = .ok (.ifnull o, 3)) (ho : 0 ≤ (pc : Int) + o) (hq : ((pc : Int) + o).toNat = q) (k : Ends p l e R s m args below meth c C S Q T (mkF m q Ls (st))) : Ends p l e R s m args below meth c C S Q T (mkF m pc Ls (.null :: st)) := step (fun _ h => XS.ifnullYes X.here hx rfl rfl hd rfl ho hq h) k
theorem ifnonnullYes (X : Stand p l e R s m args below meth c T locs cells slots) (hx : p.tables.exec = Jvm.exec) {o : Int} {b : Addr} (hd : decode c.code pc = .ok (.ifnonnull o, 3)) (ho : 0 ≤ (pc : Int) + o) (hq : ((pc : Int) + o).toNat = q) (k : Ends p l e R s m args below meth c C S Q T (mkF m q Ls (st))) : Ends p l e R s m args below meth c C S Q T (mkF m pc Ls (.ref b :: st)) := step (fun _ h => XS.ifnonnullYes X.here hx rfl rfl hd rfl ho hq h) k
theorem ifNo (X : Stand p l e R s m args below meth c T locs cells slots) (hx : p.tables.exec = Jvm.exec) {o : Int} {cd : ClassFile.Cond} {x : Int32} (hc : ifCond.holds cd x = false) (hd : decode c.code pc = .ok (.ifCond cd o, 3)) (hq : pc + 3 = q) (k : Ends p l e R s m args below meth c C S Q T (mkF m q Ls (st))) : Ends p l e R s m args below meth c C S Q T (mkF m pc Ls (.int x :: st)) := step (fun _ h => by subst hq; exact XS.ifNo X.here hx rfl hd rfl hc h) k
theorem icmpNo (X : Stand p l e R s m args below meth c T locs cells slots) (hx : p.tables.exec = Jvm.exec) {o : Int} {cd : ClassFile.Cond} {x y : Int32} (hc : if_icmp.holds cd x y = false) (hd : decode c.code pc = .ok (.if_icmp cd o, 3)) (hq : pc + 3 = q) (k : Ends p l e R s m args below meth c C S Q T (mkF m q Ls (st))) : Ends p l e R s m args below meth c C S Q T (mkF m pc Ls (.int y :: .int x :: st)) := step (fun _ h => by subst hq; exact XS.icmpNo X.here hx rfl hd rfl hc h) k
theorem ifnullNo (X : Stand p l e R s m args below meth c T locs cells slots) (hx : p.tables.exec = Jvm.exec) {o : Int} {b : Addr} (hd : decode c.code pc = .ok (.ifnull o, 3)) (hq : pc + 3 = q) (k : Ends p l e R s m args below meth c C S Q T (mkF m q Ls (st))) : Ends p l e R s m args below meth c C S Q T (mkF m pc Ls (.ref b :: st)) := step (fun _ h => by subst hq; exact XS.ifnullNo X.here hx rfl hd rfl h) k
theorem ifnonnullNo (X : Stand p l e R s m args below meth c T locs cells slots) (hx : p.tables.exec = Jvm.exec) {o : Int} (hd : decode c.code pc = .ok (.ifnonnull o, 3)) (hq : pc + 3 = q) (k : Ends p l e R s m args below meth c C S Q T (mkF m q Ls (st))) : Ends p l e R s m args below meth c C S Q T (mkF m pc Ls (.null :: st)) := step (fun _ h => by subst hq; exact XS.ifnonnullNo X.here hx rfl hd rfl h) k
theorem acmp (X : Stand p l e R s m args below meth c T locs cells slots) (hx : p.tables.exec = Jvm.exec) {o : Int} {cd : ACond} {x y : Value} (h1 : x.isRef = true) (h2 : y.isRef = true) {same : Bool} (hs : decide (x = y) = same) (hd : decode c.code pc = .ok (.if_acmp cd o, 3)) (ho : 0 ≤ (pc : Int) + o) (hq : q = if acV cd same = true then ((pc : Int) + o).toNat else pc + 3) (k : Ends p l e R s m args below meth c C S Q T (mkF m q Ls st)) : Ends p l e R s m args below meth c C S Q T (mkF m pc Ls (y :: x :: st)) := step (fun _ h => Jvm.RoadKit.acmp X hx rfl h1 h2 rfl hd rfl hs ho hq h) k
theorem dloadN (X : Stand p l e R s m args below meth c T locs cells slots) (hx : p.tables.exec = Jvm.exec) {k0 : Fin 4} {v : UInt64} (hl : Ls[k0.val]? = some (.val (.double v))) (hd : decode c.code pc = .ok (.dload_n k0, 1)) (hq : pc + 1 = q) (k : Ends p l e R s m args below meth c C S Q T (mkF m q Ls (.double v :: st))) : Ends p l e R s m args below meth c C S Q T (mkF m pc Ls (st)) := step (fun _ h => by subst hq; exact XS.dloadN X.here hx rfl hd hl h) k
theorem dload (X : Stand p l e R s m args below meth c T locs cells slots) (hx : p.tables.exec = Jvm.exec) {k0 : Nat} {v : UInt64} (hl : Ls[k0]? = some (.val (.double v))) (hd : decode c.code pc = .ok (.dload k0, 2)) (hq : pc + 2 = q) (k : Ends p l e R s m args below meth c C S Q T (mkF m q Ls (.double v :: st))) : Ends p l e R s m args below meth c C S Q T (mkF m pc Ls (st)) := step (fun _ h => by subst hq; exact XS.dload X.here hx rfl hd hl h) k
theorem dstoreN (X : Stand p l e R s m args below meth c T locs cells slots) (hx : p.tables.exec = Jvm.exec) {k0 : Fin 4} {v : UInt64} {l' : Array Slot} (hl : storeLocals Ls k0.val (.double v) = some l') (hd : decode c.code pc = .ok (.dstore_n k0, 1)) (hq : pc + 1 = q) (k : Ends p l e R s m args below meth c C S Q T (mkF m q l' (st))) : Ends p l e R s m args below meth c C S Q T (mkF m pc Ls (.double v :: st)) := step (fun _ h => by subst hq; exact XS.dstoreN X.here hx rfl hd rfl hl h) k
theorem dstore (X : Stand p l e R s m args below meth c T locs cells slots) (hx : p.tables.exec = Jvm.exec) {k0 : Nat} {v : UInt64} {l' : Array Slot} (hl : storeLocals Ls k0 (.double v) = some l') (hd : decode c.code pc = .ok (.dstore k0, 2)) (hq : pc + 2 = q) (k : Ends p l e R s m args below meth c C S Q T (mkF m q l' (st))) : Ends p l e R s m args below meth c C S Q T (mkF m pc Ls (.double v :: st)) := step (fun _ h => by subst hq; exact XS.dstore X.here hx rfl hd rfl hl h) k
theorem i2d (X : Stand p l e R s m args below meth c T locs cells slots) (hx : p.tables.exec = Jvm.exec) {x : Int32} (hd : decode c.code pc = .ok (.i2d, 1)) (hq : pc + 1 = q) (k : Ends p l e R s m args below meth c C S Q T (mkF m q Ls (.double (FP.i2d x) :: st))) : Ends p l e R s m args below meth c C S Q T (mkF m pc Ls (.int x :: st)) := step (fun _ h => by subst hq; exact XS.i2dS X.here hx rfl hd rfl rfl h) k
theorem b53_i (x : Int32) : B53 x.toInt64 := by
  have h := rng32 x
  unfold B53; rw [c_i2l]
  exact ⟨Int.lt_of_lt_of_le (by decide) h.1, Int.lt_trans h.2 (by decide)⟩
theorem dcmp_i (x y : Int32) (o : CmpOp) : cmpValue (FP.dcmp (FP.i2d x) (FP.i2d y)) o = lcmpW x.toInt64 y.toInt64 := by
  rw [i2d_w, i2d_w]; exact dcmpV_w (b53_i x) (b53_i y) o
theorem dcmpI (X : Stand p l e R s m args below meth c T locs cells slots) (hx : p.tables.exec = Jvm.exec) {o : CmpOp} {x y : Int32} (hd : decode c.code pc = .ok (.dcmp o, 1)) (hq : pc + 1 = q) (k : Ends p l e R s m args below meth c C S Q T (mkF m q Ls (.int (lcmpW x.toInt64 y.toInt64) :: st))) : Ends p l e R s m args below meth c C S Q T (mkF m pc Ls (.double (FP.i2d y) :: .double (FP.i2d x) :: st)) := step (fun _ h => by subst hq; exact XS.dcmpS X.here hx rfl hd rfl (dcmp_i x y o) h) k
theorem ldc2Long (X : Stand p l e R s m args below meth c T locs cells slots) (hx : p.tables.exec = Jvm.exec) {Z : State} {a0 : Array Value} (hZ : Z.Warmed39 s.vm) {own : String} (hown : s.vm.findClass own = some m.cls) {index : Nat} {v : Int64} (w : (Jvm.Cond.constantLong own index v).before a0 Z = true) (hd : decode c.code pc = .ok (.ldc2_w index, 3)) (hq : pc + 3 = q) (k : Ends p l e R s m args below meth c C S Q T (mkF m q Ls (.long v :: st))) : Ends p l e R s m args below meth c C S Q T (mkF m pc Ls st) := step (fun t h => by subst hq; exact X.ldc2Long hx hown (mvT hZ w) (g := mkF m pc Ls st) rfl hd t h) k
theorem ldcInt (X : Stand p l e R s m args below meth c T locs cells slots) (hx : p.tables.exec = Jvm.exec) {Z : State} {a0 : Array Value} (hZ : Z.Warmed39 s.vm) {own : String} (hown : s.vm.findClass own = some m.cls) {index : Nat} {v : Int32} (w : (Jvm.Cond.constant own index v).before a0 Z = true) (hd : decode c.code pc = .ok (.ldc index, 2)) (hq : pc + 2 = q) (k : Ends p l e R s m args below meth c C S Q T (mkF m q Ls (.int v :: st))) : Ends p l e R s m args below meth c C S Q T (mkF m pc Ls st) := step (fun t h => by subst hq; exact X.ldcInt hx hown (mvT hZ w) (g := mkF m pc Ls st) rfl hd t h) k
theorem retZ (X : Stand p l e R s m args below meth c T locs cells slots) (hx : p.tables.exec = Jvm.exec) {z : Int32} {t : FieldType} (hret : meth.sig.returnType = some t) (ht : t = .boolean ∨ t = .byte ∨ t = .char ∨ t = .short) (hd : decode c.code pc = .ok (.ireturn, 1)) (hQ : Q (some (.int (nar t z))) T.heap locs) (hc : cells ≤ C) (hs : slots ≤ S) : Ends p l e R s m args below meth c C S Q T (mkF m pc Ls (.int z :: st)) :=
  ⟨T, locs, cells, slots, _, X, hQ, hc, hs, (fun h => by rw [hret] at h; cases h), fun fs hl => retN X hx hret ht hd hl⟩
theorem retG (X : Stand p l e R s m args below meth c T locs cells slots) (hx : p.tables.exec = Jvm.exec) {w : Value} {t : FieldType} {i : Instr} (hret : meth.sig.returnType = some t) (hn : narrow t w = w)
    (hi : (i = .ireturn ∧ (t = .int ∨ t = .boolean ∨ t = .byte ∨ t = .char ∨ t = .short) ∧ ∃ z, w = .int z) ∨ (i = .lreturn ∧ t = .long ∧ ∃ z, w = .long z) ∨ (i = .dreturn ∧ t = .double ∧ ∃ z, w = .double z) ∨ (i = .freturn ∧ t = .float ∧ ∃ z, w = .float z) ∨ (i = .areturn ∧ t.isReference = true ∧ w.isRef = true)) (hd : decode c.code pc = .ok (i, 1)) (hQ : Q (some w) T.heap locs) (hc : cells ≤ C) (hs : slots ≤ S) : Ends p l e R s m args below meth c C S Q T (mkF m pc Ls (w :: st)) :=
  ⟨T, locs, cells, slots, _, X, hQ, hc, hs, (fun h => by rw [hret] at h; cases h), fun fs hl => retOut X hx hret hn hi hd hl⟩
theorem retI (X : Stand p l e R s m args below meth c T locs cells slots) (hx : p.tables.exec = Jvm.exec) {z : Int32} (hret : meth.sig.returnType = some .int) (hd : decode c.code pc = .ok (.ireturn, 1)) (hQ : Q (some (.int z)) T.heap locs) (hc : cells ≤ C) (hs : slots ≤ S) : Ends p l e R s m args below meth c C S Q T (mkF m pc Ls (.int z :: st)) := retG X hx hret rfl (Or.inl ⟨rfl, Or.inl rfl, z, rfl⟩) hd hQ hc hs
theorem retL (X : Stand p l e R s m args below meth c T locs cells slots) (hx : p.tables.exec = Jvm.exec) {z : Int64} (hret : meth.sig.returnType = some .long) (hd : decode c.code pc = .ok (.lreturn, 1)) (hQ : Q (some (.long z)) T.heap locs) (hc : cells ≤ C) (hs : slots ≤ S) : Ends p l e R s m args below meth c C S Q T (mkF m pc Ls (.long z :: st)) := retG X hx hret rfl (Or.inr (Or.inl ⟨rfl, rfl, z, rfl⟩)) hd hQ hc hs
theorem retA (X : Stand p l e R s m args below meth c T locs cells slots) (hx : p.tables.exec = Jvm.exec) {v : Value} {t : FieldType} (hret : meth.sig.returnType = some t) (ht : t.isReference = true) (hv : v.isRef = true) (hn : narrow t v = v) (hd : decode c.code pc = .ok (.areturn, 1)) (hQ : Q (some v) T.heap locs) (hc : cells ≤ C) (hs : slots ≤ S) : Ends p l e R s m args below meth c C S Q T (mkF m pc Ls (v :: st)) := retG X hx hret hn (Or.inr (Or.inr (Or.inr (Or.inr ⟨rfl, ht, hv⟩)))) hd hQ hc hs
theorem retV (X : Stand p l e R s m args below meth c T locs cells slots) (hx : p.tables.exec = Jvm.exec) (hret : meth.sig.returnType = none) (hd : decode c.code pc = .ok (.return_, 1)) (hQ : Q none T.heap locs) (hc : cells ≤ C) (hs : slots ≤ S) : Ends p l e R s m args below meth c C S Q T (mkF m pc Ls []) :=
  ⟨T, locs, cells, slots, none, X, hQ, hc, hs, (fun _ => rfl), fun fs hl => X.returnOut hx hret hd hl⟩
theorem callS (X : Stand p l e R s m args below meth c T locs cells slots) (hx : p.tables.exec = Jvm.exec) {Z : State} {a0 : Array Value} (hZ : Z.Warmed39 s.vm) {own : String} (hown : s.vm.findClass own = some m.cls) {index : Nat} {h : Heap} (eT : T.heap = h) {y : MethodName} {bytes : ByteArray} {maxL : Nat} {ret : Option FieldType} {rm : Room} {Qc : Option Value → Heap → List Loc → Prop} (w1 : (Jvm.Cond.methodLink own index y).before a0 Z = true) (w2 : (Jvm.Cond.static y).before a0 Z = true) (w3 : (Jvm.Cond.initialized y.cls).before a0 Z = true) (w4 : (Jvm.Cond.code y bytes maxL ret).before a0 Z = true) (hy : y.cls ≠ "java/lang/invoke/MethodHandle" ∧ y.cls ≠ "java/lang/invoke/VarHandle")
    {argsL : List Value} (hM : Pays l Z y bytes maxL ret [] rm argsL.toArray h Qc) (hsize : Ls.size = c.maxLocals) {ps : List FieldType} {rt : Option FieldType} (hsig : parseMethodDescriptor y.desc = some ⟨ps, rt⟩) (hlen : argsL.length = ps.length) {W : Nat} (hW : (rest.map fun v => v.category).sum ≤ W) (hf : rm.frames + 1 ≤ R.frames) (hl : W + (maxL + 11) + rm.locals ≤ R.locals) (hcc : cells + rm.cells ≤ R.cells) (hss : slots + rm.slots ≤ R.slots) (hst : st = argsL.reverse ++ rest) (hd : decode c.code pc = .ok (.invokestatic index, 3)) (hq : pc + 3 = q) (k : ∀ (T' : State) (v : Option Value) (L : List Loc), Stand p l e R s m args below meth c T' (locs ++ L) (cells + rm.cells) (slots + rm.slots) → Qc v T'.heap L → Ends p l e R s m args below meth c C S Q T' (mkF m q Ls (v.toList ++ rest))) : Ends p l e R s m args below meth c C S Q T (mkF m pc Ls st) := by
  obtain ⟨v, _, ⟨T', L', k', n'⟩, -, X', ⟨L, hQ, l1, y1, z1⟩, stp⟩ := Jvm.LawKit.callS X hx (y := y) hown (mvT hZ w1) (mvT hZ w2) (mvT hZ w3) (mvT hZ w4) hy (backOf (W := W) hM hZ w4 w3 hf hl) (g := mkF m pc Ls st) rfl hsize (argsL := argsL) (rest := rest) (lenOf hsig hlen) hst (by show 2 * 0 + _ ≤ _; omega) hd (fun _ _ => ⟨rfl, eT, hcc, hss⟩)
  dsimp only [Pt.U, Pt.locs, Pt.cells, Pt.slots] at X' l1 y1 z1 stp hQ
  subst l1 y1 z1 hq
  exact step stp (k T' v L X' hQ)
theorem callI (X : Stand p l e R s m args below meth c T locs cells slots) (hx : p.tables.exec = Jvm.exec) {Z : State} {a0 : Array Value} (hZ : Z.Warmed39 s.vm) {own : String} (hown : s.vm.findClass own = some m.cls) {index : Nat} {h : Heap} (eT : T.heap = h) {y : MethodName} {bytes : ByteArray} {maxL : Nat} {rm : Room} {Qc : Option Value → Heap → List Loc → Prop} (hy1 : y.name = "<init>") (w1 : (Jvm.Cond.methodLink own index y).before a0 Z = true) (w2 : (Jvm.Cond.instanceMethod y).before a0 Z = true) (w3 : (Jvm.Cond.initialized y.cls).before a0 Z = true) (w4 : (Jvm.Cond.code y bytes maxL none).before a0 Z = true) (hy : y.cls ≠ "java/lang/invoke/MethodHandle" ∧ y.cls ≠ "java/lang/invoke/VarHandle")
    {a : Addr} {argsL : List Value} (hM : Pays l Z y bytes maxL none [] rm (Value.ref a :: argsL).toArray h Qc) (hsize : Ls.size = c.maxLocals) {ps : List FieldType} {rt : Option FieldType} (hsig : parseMethodDescriptor y.desc = some ⟨ps, rt⟩) (hlen : argsL.length = ps.length) {W : Nat} (hW : (rest.map fun v => v.category).sum ≤ W) (hf : rm.frames + 1 ≤ R.frames) (hl : W + (maxL + 11) + rm.locals ≤ R.locals) (hcc : cells + rm.cells ≤ R.cells) (hss : slots + rm.slots ≤ R.slots) (hst : st = argsL.reverse ++ .ref a :: rest) (hd : decode c.code pc = .ok (.invokespecial index, 3)) (hq : pc + 3 = q) (k : ∀ (T' : State) (v : Option Value) (L : List Loc), Stand p l e R s m args below meth c T' (locs ++ L) (cells + rm.cells) (slots + rm.slots) → Qc v T'.heap L → Ends p l e R s m args below meth c C S Q T' (mkF m q Ls (v.toList ++ rest))) : Ends p l e R s m args below meth c C S Q T (mkF m pc Ls st) := by
  obtain ⟨v, _, ⟨T', L', k', n'⟩, -, X', ⟨L, hQ, l1, y1, z1⟩, stp⟩ := X.specialBack hx (y := y) hy1 hown (mvT hZ w1) (mvT hZ w2) (mvT hZ w4) hy (backOf (W := W) hM hZ w4 w3 hf hl) (g := mkF m pc Ls st) rfl hsize (Steps.refl _) (a := a) (argsL := argsL) (rest := rest) (lenOf hsig hlen) hst (by show 2 * 0 + _ ≤ _; omega) hd (fun _ _ => ⟨rfl, eT, hcc, hss⟩)
  dsimp only [Pt.U, Pt.locs, Pt.cells, Pt.slots] at X' l1 y1 z1 stp hQ
  subst l1 y1 z1 hq
  exact step (fun _ h => stp.trans h) (k T' v L X' hQ)
theorem callV (X : Stand p l e R s m args below meth c T locs cells slots) (hx : p.tables.exec = Jvm.exec) {Z : State} {a0 : Array Value} (hZ : Z.Warmed39 s.vm) {own : String} (hown : s.vm.findClass own = some m.cls) {index : Nat} {h : Heap} (eT : T.heap = h) {y z : MethodName} {K : String} {bytes : ByteArray} {maxL : Nat} {ret : Option FieldType} {rm : Room} {Qc : Option Value → Heap → List Loc → Prop} (w1 : (Jvm.Cond.methodLink own index y).before a0 Z = true) (w2 : (Jvm.Cond.declares y).before a0 Z = true) (hnf : NotFace s y) (w5 : (Jvm.Cond.selects K y z).before a0 Z = true) (w6 : (Jvm.Cond.instanceMethod z).before a0 Z = true) (w3 : (Jvm.Cond.initialized z.cls).before a0 Z = true) (w4 : (Jvm.Cond.code z bytes maxL ret).before a0 Z = true) (hy : y.cls ≠ "java/lang/invoke/MethodHandle" ∧ y.cls ≠ "java/lang/invoke/VarHandle")
    {a : Addr} (E : Exa Z h a K) {argsL : List Value} (hM : Pays l Z z bytes maxL ret [] rm (Value.ref a :: argsL).toArray h Qc) (hsize : Ls.size = c.maxLocals) {ps : List FieldType} {rt : Option FieldType} (hsig : parseMethodDescriptor y.desc = some ⟨ps, rt⟩) (hlen : argsL.length = ps.length) {W : Nat} (hW : (rest.map fun v => v.category).sum ≤ W) (hf : rm.frames + 1 ≤ R.frames) (hl : W + (maxL + 11) + rm.locals ≤ R.locals) (hcc : cells + rm.cells ≤ R.cells) (hss : slots + rm.slots ≤ R.slots) (hst : st = argsL.reverse ++ .ref a :: rest) (hd : decode c.code pc = .ok (.invokevirtual index, 3)) (hq : pc + 3 = q) (k : ∀ (T' : State) (v : Option Value) (L : List Loc), Stand p l e R s m args below meth c T' (locs ++ L) (cells + rm.cells) (slots + rm.slots) → Qc v T'.heap L → Ends p l e R s m args below meth c C S Q T' (mkF m q Ls (v.toList ++ rest))) : Ends p l e R s m args below meth c C S Q T (mkF m pc Ls st) := by
  obtain ⟨cq, kq, qa, qb, qc⟩ := isOf hZ eT E
  obtain ⟨v, _, ⟨T', L', k', n'⟩, -, X', ⟨L, hQ, l1, y1, z1⟩, stp⟩ := X.virtualBack hx (y := y) (z := z) hown (mvT hZ w1) (mvT hZ w2) hnf (mvT hZ w5) (mvT hZ w6) hy (backOf (W := W) hM hZ w4 w3 hf hl) qa qc (g := mkF m pc Ls st) rfl hsize (Steps.refl _) (argsL := argsL) (rest := rest) (lenOf hsig hlen) hst (by show 2 * 0 + _ ≤ _; omega) hd (fun _ _ => ⟨rfl, eT, hcc, hss⟩)
  dsimp only [Pt.U, Pt.locs, Pt.cells, Pt.slots] at X' l1 y1 z1 stp hQ
  subst l1 y1 z1 hq
  exact step (fun _ h => stp.trans h) (k T' v L X' hQ)
theorem pureK {T' : State} {v V : Option Value} {h : Heap} {L : List Loc} (X' : Stand p l e R s m args below meth c T' (locs ++ L) (cells + 0) (slots + 0)) (hQ : RetQ V h v T'.heap L) : Stand p l e R s m args below meth c T' locs cells slots ∧ T'.heap = h ∧ v = V := by
  obtain ⟨h1, h2, rfl⟩ := hQ
  rw [List.append_nil] at X'
  exact ⟨X', h2, h1⟩
theorem iteP {α : Type} {P : α → Prop} {c : Prop} [Decidable c] {a b : α} (h1 : P a) (h2 : P b) : P (if c then a else b) := by split <;> assumption
theorem cat_of {v : Value} (h : v.isRef = true) : v.category = 1 := by rcases ref_cases h with rfl | ⟨a, rfl⟩ <;> rfl
theorem c_t {cd : ClassFile.Cond} {x : Int32} {b : Bool} (h : if_icmp.holds cd x 0 = b) : ifCond.holds cd x = b := (if0 cd x).trans h
theorem Ext_trans {h0 h h' : Heap} (E : Ext h0 h) (E' : Ext h h') : Ext h0 h' := ⟨Nat.le_trans E.1 E'.1, fun a c q => E'.2 a c (E.2 a c q)⟩
theorem Ext_wr {h0 h h' : Heap} {a : Addr} {sl : Nat} {v : Value} (E : Ext h0 h) (W : Wr h h' a sl v) (q : h0.size ≤ a) : Ext h0 h' :=
  ⟨Nat.le_trans E.1 (Keep.of_wr W).1, fun b c r => (Keep.of_wr W).2.1 b c (E.2 b c r) (ninS (Nat.ne_of_lt (Nat.lt_of_lt_of_le (Array.getElem?_eq_some_iff.mp r).1 q)) nin0)⟩
theorem Ext_keep {h0 h h' : Heap} {ws : List Addr} (E : Ext h0 h) (K : Keep h h' ws) (q : ∀ x ∈ ws, h0.size ≤ x) : Ext h0 h' :=
  ⟨Nat.le_trans E.1 K.1, fun b c r => K.2.1 b c (E.2 b c r) fun z => absurd (Array.getElem?_eq_some_iff.mp r).1 (Nat.not_lt.mpr (q b z))⟩
theorem rr_t {a b : Addr} (h : a = b) : decide ((Value.ref a : Value) = .ref b) = true := decide_eq_true (congrArg Value.ref h)
theorem rr_f {a b : Addr} (h : ¬ a = b) : decide ((Value.ref a : Value) = .ref b) = false := decide_eq_false fun q => h (Value.ref.inj q)
theorem l_t {x y : Int64} (h : x < y) : lcmpW x y < 0 := (lw_lt x y).mpr h
theorem l_f {x y : Int64} (h : ¬ x < y) : ¬ lcmpW x y < 0 := fun q => h ((lw_lt x y).mp q)
theorem g_t {x y : Int64} (h : y < x) : 0 < lcmpW x y := (lw_gt x y).mpr h
theorem g_f {x y : Int64} (h : ¬ y < x) : ¬ 0 < lcmpW x y := fun q => h ((lw_gt x y).mp q)
theorem e_t {x y : Int64} (h : x = y) : lcmpW x y = 0 := (lw_eq x y).mpr h
theorem e_f {x y : Int64} (h : ¬ x = y) : ¬ lcmpW x y = 0 := fun q => h ((lw_eq x y).mp q)
end
end Jvm.EKit
namespace Jvm.EKit
open Sem ClassFile Op Lib Jvm.Stand Jvm.Free Jvm.LawKit Jvm.RoadKit
/-- the array at a: its class, kind, length, and what lies at each place -/
def Ary (Z : State) (h : Heap) (a : Addr) (k : ClassId) (ty : FieldType) (n : Int32) (f : Int32 → Value) : Prop :=
  ∃ cl : Cell, Arr Z h a cl ty ∧ cl.cls = k ∧ cl.slots.size = n.toNatClampNeg ∧ ¬ n < 0 ∧ ∀ j : Int32, ¬ j < 0 → j < n → cl.slots[j.toNatClampNeg]? = some (f j)
section
variable {Z : State} {h h' : Heap} {a b : Addr} {k : ClassId} {ty : FieldType} {n : Int32} {f : Int32 → Value}
theorem Ary.lt (F : Ary Z h a k ty n f) : a < h.size := by obtain ⟨cl, A, -⟩ := F; exact A.lt
theorem Ary.ext (F : Ary Z h a k ty n f) (E : Ext h h') : Ary Z h' a k ty n f := by obtain ⟨cl, A, r⟩ := F; exact ⟨cl, A.ext E, r⟩
theorem Ary.other {sl : Nat} {v : Value} (F : Ary Z h b k ty n f) (W : Wr h h' a sl v) (q : b ≠ a) : Ary Z h' b k ty n f := by obtain ⟨cl, A, r⟩ := F; exact ⟨cl, A.other W q, r⟩
theorem Ary.keep {ws : List Addr} (F : Ary Z h a k ty n f) (K : Keep h h' ws) (q : a ∉ ws) : Ary Z h' a k ty n f := by obtain ⟨cl, A, r⟩ := F; exact ⟨cl, ⟨K.2.1 a cl A.1 q, A.2⟩, r⟩
theorem Ary.new (A : Arr Z h a (newA k ty n) ty) (q : ¬ n < 0) : Ary Z h a k ty n (fun _ => defaultValue ty) :=
  ⟨_, A, rfl, sz_new _ _ _, q, fun j h1 h2 => get_new (by rw [← sz_new k ty n]; exact inb_of (sz_new k ty n) ⟨h1, h2⟩)⟩
theorem Ary.eq {g : Int32 → Value} (F : Ary Z h a k ty n f) (q : ∀ j : Int32, ¬ j < 0 → j < n → f j = g j) : Ary Z h a k ty n g := by
  obtain ⟨cl, A, r1, r2, r3, r4⟩ := F; exact ⟨cl, A, r1, r2, r3, fun j h1 h2 => (r4 j h1 h2).trans (congrArg some (q j h1 h2))⟩
theorem evalEq {args : Array Value} {first s : State} {o : Option Outcome} {idx : List Nat} {t u : Jvm.Term} {v : Value} (h : (Jvm.Cond.eq t u).value args first o s idx = some true) (hu : u.eval args first o idx s = some v) : t.eval args first o idx s = some v := by
  simp only [Cond.value, hu] at h
  cases ht : t.eval args first o idx s with
  | none => simp [ht] at h
  | some w => cases w <;> cases v <;> simp [ht] at h <;> simp [h]
theorem evalLen {args : Array Value} {first s : State} {o : Option Outcome} {idx : List Nat} {t : Jvm.Term} {x : Addr} {cl : Cell} {z : Int32} (h : (Jvm.Term.length t).eval args first o idx s = some (.int z)) (ht : t.eval args first o idx s = some (.ref x)) (A : Arr s s.heap x cl ty) : cl.slots.size = z.toNatClampNeg ∧ ¬ z < 0 := by
  have ha := A.fin (U := s) (Vm.Alike.refl _)
  simp only [Term.eval, ht, ha, Option.bind_eq_bind, Option.bind_some] at h
  by_cases hl : cl.slots.size < 2 ^ 31
  · simp [hl] at h
    subst h
    have e : cl.slots.size.toInt32.toInt = cl.slots.size := len_toInt hl
    refine ⟨by simp only [Int32.toNatClampNeg, e]; rfl, ?_⟩
    rw [Int32.lt_iff_toInt_lt, e]; exact Int.not_lt.mpr (Int.natCast_nonneg _)
  · simp [hl] at h
theorem Ary.start {cl : Cell} (A : Arr Z h a cl ty) (r2 : cl.slots.size = n.toNatClampNeg) (r3 : ¬ n < 0) (r4 : ∀ i : Nat, i < n.toNatClampNeg → cl.slots[i]? = some (f (Int32.ofNat i))) : Ary Z h a cl.cls ty n f := by
  refine ⟨cl, A, rfl, r2, r3, fun j h1 h2 => ?_⟩
  have e := back32 h1
  have q := r4 j.toNatClampNeg (by
    rw [Int32.lt_iff_toInt_lt] at h1 h2
    rw [show (0 : Int32).toInt = 0 from rfl] at h1
    simp only [Int32.toNatClampNeg]; omega)
  rw [q]; exact congrArg (fun z => some (f z)) e.1
theorem clamp_inj {i j : Int32} (hi : ¬ i < 0) (hj : ¬ j < 0) (q : i.toNatClampNeg = j.toNatClampNeg) : i = j := by
  rw [Int32.lt_iff_toInt_lt, show (0 : Int32).toInt = 0 from rfl] at hi hj
  apply Int32.toInt_inj.mp
  have e1 : i.toNatClampNeg = i.toInt.toNat := rfl
  have e2 : j.toNatClampNeg = j.toInt.toNat := rfl
  omega
theorem Ary.set {cl : Cell} {i : Int32} {v : Value} (A : Arr Z h a cl ty) (r1 : cl.cls = k) (r2 : cl.slots.size = n.toNatClampNeg) (r3 : ¬ n < 0) (r4 : ∀ j : Int32, ¬ j < 0 → j < n → cl.slots[j.toNatClampNeg]? = some (f j)) (hi : ¬ i < 0) (hn : i < n) (W : Wr h h' a i.toNatClampNeg v) : Ary Z h' a k ty n (fun j => if j = i then v else f j) := by
  refine ⟨_, A.same W, r1, (sz_set _ _ _).trans r2, r3, fun j h1 h2 => ?_⟩
  by_cases q : j = i
  · exact (get_hit (inb_of r2 ⟨hi, hn⟩) q).trans (congrArg some (if_pos q).symm)
  · exact ((get_miss hi h1 q).trans (r4 j h1 h2)).trans (congrArg some (if_neg q).symm)
end
section
variable {p : Program} {l : Launch} {e : Env} {R : Room} {s : State} {m : MethodId} {args : Array Value} {below : List Frame} {meth : Method} {c : Code} {T : State} {locs : List Loc} {cells slots : Nat} {C S : Nat} {Q : Option Value → Heap → List Loc → Prop} {pc q : Nat} {Ls : Array Slot} {st : List Value} {Z : State} {h : Heap} {a : Addr} {k : ClassId} {n j : Int32} {f : Int32 → Value}

theorem alen (X : Stand p l e R s m args below meth c T locs cells slots) (hx : p.tables.exec = Jvm.exec) (hZ : Z.Warmed39 s.vm) (eT : T.heap = h) {ty : FieldType} (F : Ary Z h a k ty n f) (hd : decode c.code pc = .ok (.arraylength, 1)) (hq : pc + 1 = q) (kk : Ends p l e R s m args below meth c C S Q T (mkF m q Ls (.int n :: st))) : Ends p l e R s m args below meth c C S Q T (mkF m pc Ls (.ref a :: st)) := by
  obtain ⟨cl, A, r1, r2, r3, r4⟩ := F
  subst hq
  exact step (fun t h => X.arraylength hx (by rw [eT]; exact A.1) (State.isArrayOf_alike hZ.alike A.2.1) (g := mkF m pc Ls (.ref a :: st)) rfl rfl hd t (by rw [len_of r2 r3]; exact h)) kk
theorem iaload (X : Stand p l e R s m args below meth c T locs cells slots) (hx : p.tables.exec = Jvm.exec) (hZ : Z.Warmed39 s.vm) (eT : T.heap = h) (F : Ary Z h a k .int n f) (h1 : ¬ j < 0) (h2 : j < n) {v : Value} (hv : f j = v) (hd : decode c.code pc = .ok (.iaload, 1)) (hq : pc + 1 = q) (kk : Ends p l e R s m args below meth c C S Q T (mkF m q Ls (v :: st))) : Ends p l e R s m args below meth c C S Q T (mkF m pc Ls (.int j :: .ref a :: st)) := by
  obtain ⟨cl, A, r1, r2, r3, r4⟩ := F
  subst hq hv
  exact step (fun t h => X.iaload hx (by rw [eT]; exact A.1) (State.isArrayOf_alike hZ.alike A.2.1) A.2.2 (inb_of r2 ⟨h1, h2⟩) (r4 j h1 h2) (g := mkF m pc Ls (.int j :: .ref a :: st)) rfl rfl hd t h) kk
theorem laload (X : Stand p l e R s m args below meth c T locs cells slots) (hx : p.tables.exec = Jvm.exec) (hZ : Z.Warmed39 s.vm) (eT : T.heap = h) (F : Ary Z h a k .long n f) (h1 : ¬ j < 0) (h2 : j < n) {v : Value} (hv : f j = v) (hd : decode c.code pc = .ok (.laload, 1)) (hq : pc + 1 = q) (kk : Ends p l e R s m args below meth c C S Q T (mkF m q Ls (v :: st))) : Ends p l e R s m args below meth c C S Q T (mkF m pc Ls (.int j :: .ref a :: st)) := by
  obtain ⟨cl, A, r1, r2, r3, r4⟩ := F
  subst hq hv
  exact step (fun t h => X.laload hx (by rw [eT]; exact A.1) (State.isArrayOf_alike hZ.alike A.2.1) A.2.2 (inb_of r2 ⟨h1, h2⟩) (r4 j h1 h2) (g := mkF m pc Ls (.int j :: .ref a :: st)) rfl rfl hd t h) kk
theorem caload (X : Stand p l e R s m args below meth c T locs cells slots) (hx : p.tables.exec = Jvm.exec) (hZ : Z.Warmed39 s.vm) (eT : T.heap = h) (F : Ary Z h a k .char n f) (h1 : ¬ j < 0) (h2 : j < n) {v : Value} (hv : f j = v) (hd : decode c.code pc = .ok (.caload, 1)) (hq : pc + 1 = q) (kk : Ends p l e R s m args below meth c C S Q T (mkF m q Ls (v :: st))) : Ends p l e R s m args below meth c C S Q T (mkF m pc Ls (.int j :: .ref a :: st)) := by
  obtain ⟨cl, A, r1, r2, r3, r4⟩ := F
  subst hq hv
  exact step (fun t h => X.caload hx (by rw [eT]; exact A.1) (State.isArrayOf_alike hZ.alike A.2.1) A.2.2 (inb_of r2 ⟨h1, h2⟩) (r4 j h1 h2) (g := mkF m pc Ls (.int j :: .ref a :: st)) rfl rfl hd t h) kk
theorem baloadB (X : Stand p l e R s m args below meth c T locs cells slots) (hx : p.tables.exec = Jvm.exec) (hZ : Z.Warmed39 s.vm) (eT : T.heap = h) (F : Ary Z h a k .byte n f) (h1 : ¬ j < 0) (h2 : j < n) {v : Value} (hv : f j = v) (hd : decode c.code pc = .ok (.baload, 1)) (hq : pc + 1 = q) (kk : Ends p l e R s m args below meth c C S Q T (mkF m q Ls (v :: st))) : Ends p l e R s m args below meth c C S Q T (mkF m pc Ls (.int j :: .ref a :: st)) := by
  obtain ⟨cl, A, r1, r2, r3, r4⟩ := F
  subst hq hv
  exact step (fun t h => X.baloadBytes hx (by rw [eT]; exact A.1) (State.isArrayOf_alike hZ.alike A.2.1) A.2.2 (inb_of r2 ⟨h1, h2⟩) (r4 j h1 h2) (g := mkF m pc Ls (.int j :: .ref a :: st)) rfl rfl hd t h) kk
theorem baloadZ (X : Stand p l e R s m args below meth c T locs cells slots) (hx : p.tables.exec = Jvm.exec) (hZ : Z.Warmed39 s.vm) (eT : T.heap = h) (F : Ary Z h a k .boolean n f) (h1 : ¬ j < 0) (h2 : j < n) {v : Value} (hv : f j = v) (hd : decode c.code pc = .ok (.baload, 1)) (hq : pc + 1 = q) (kk : Ends p l e R s m args below meth c C S Q T (mkF m q Ls (v :: st))) : Ends p l e R s m args below meth c C S Q T (mkF m pc Ls (.int j :: .ref a :: st)) := by
  obtain ⟨cl, A, r1, r2, r3, r4⟩ := F
  subst hq hv
  exact step (fun t h => X.baloadBooleans hx (by rw [eT]; exact A.1) (State.isArrayOf_alike hZ.alike A.2.1) A.2.2 (inb_of r2 ⟨h1, h2⟩) (r4 j h1 h2) (g := mkF m pc Ls (.int j :: .ref a :: st)) rfl rfl hd t h) kk
theorem aaload (X : Stand p l e R s m args below meth c T locs cells slots) (hx : p.tables.exec = Jvm.exec) (hZ : Z.Warmed39 s.vm) (eT : T.heap = h) {ty : FieldType} (hty : ty.isReference = true) (F : Ary Z h a k ty n f) (h1 : ¬ j < 0) (h2 : j < n) {v : Value} (hv : f j = v) (hd : decode c.code pc = .ok (.aaload, 1)) (hq : pc + 1 = q) (kk : Ends p l e R s m args below meth c C S Q T (mkF m q Ls (v :: st))) : Ends p l e R s m args below meth c C S Q T (mkF m pc Ls (.int j :: .ref a :: st)) := by
  obtain ⟨cl, A, r1, r2, r3, r4⟩ := F
  subst hq hv
  exact step (fun t h => X.aaload hx (by rw [eT]; exact A.1) (State.isArrayOf_alike hZ.alike A.2.1) hty A.2.2 (inb_of r2 ⟨h1, h2⟩) (r4 j h1 h2) (g := mkF m pc Ls (.int j :: .ref a :: st)) rfl rfl hd t h) kk
theorem iastore (X : Stand p l e R s m args below meth c T locs cells slots) (hx : p.tables.exec = Jvm.exec) (hZ : Z.Warmed39 s.vm) (eT : T.heap = h) (F : Ary Z h a k .int n f) {x : Int32} (h1 : ¬ j < 0) (h2 : j < n) (hd : decode c.code pc = .ok (.iastore, 1)) (hq : pc + 1 = q)
    (kk : ∀ (T' : State) (h' : Heap), Stand p l e R s m args below meth c T' (locs ++ [⟨a, j.toNatClampNeg⟩]) cells slots → T'.heap = h' → Wr h h' a j.toNatClampNeg (.int x) → Ary Z h' a k .int n (fun i => if i = j then .int x else f i) → Ends p l e R s m args below meth c C S Q T' (mkF m q Ls st)) : Ends p l e R s m args below meth c C S Q T (mkF m pc Ls (.int x :: .int j :: .ref a :: st)) := by
  obtain ⟨cl, A, r1, r2, r3, r4⟩ := F
  obtain ⟨T', h', X', e', W', stp⟩ := stI X hx hZ eT A (j := j) (x := x) (inb_of r2 ⟨h1, h2⟩) (g := mkF m pc Ls (.int x :: .int j :: .ref a :: st)) rfl rfl hd
  subst hq
  exact step stp (kk T' h' X' e' W' (Ary.set A r1 r2 r3 r4 h1 h2 W'))
theorem lastore (X : Stand p l e R s m args below meth c T locs cells slots) (hx : p.tables.exec = Jvm.exec) (hZ : Z.Warmed39 s.vm) (eT : T.heap = h) (F : Ary Z h a k .long n f) {x : Int64} (h1 : ¬ j < 0) (h2 : j < n) (hd : decode c.code pc = .ok (.lastore, 1)) (hq : pc + 1 = q)
    (kk : ∀ (T' : State) (h' : Heap), Stand p l e R s m args below meth c T' (locs ++ [⟨a, j.toNatClampNeg⟩]) cells slots → T'.heap = h' → Wr h h' a j.toNatClampNeg (.long x) → Ary Z h' a k .long n (fun i => if i = j then .long x else f i) → Ends p l e R s m args below meth c C S Q T' (mkF m q Ls st)) : Ends p l e R s m args below meth c C S Q T (mkF m pc Ls (.long x :: .int j :: .ref a :: st)) := by
  obtain ⟨cl, A, r1, r2, r3, r4⟩ := F
  obtain ⟨T', h', X', e', W', stp⟩ := stJ X hx hZ eT A (j := j) (x := x) (inb_of r2 ⟨h1, h2⟩) (g := mkF m pc Ls (.long x :: .int j :: .ref a :: st)) rfl rfl hd
  subst hq
  exact step stp (kk T' h' X' e' W' (Ary.set A r1 r2 r3 r4 h1 h2 W'))
theorem castore (X : Stand p l e R s m args below meth c T locs cells slots) (hx : p.tables.exec = Jvm.exec) (hZ : Z.Warmed39 s.vm) (eT : T.heap = h) (F : Ary Z h a k .char n f) {x : Int32} (h1 : ¬ j < 0) (h2 : j < n) (hd : decode c.code pc = .ok (.castore, 1)) (hq : pc + 1 = q)
    (kk : ∀ (T' : State) (h' : Heap), Stand p l e R s m args below meth c T' (locs ++ [⟨a, j.toNatClampNeg⟩]) cells slots → T'.heap = h' → Wr h h' a j.toNatClampNeg (.int (nar .char x)) → Ary Z h' a k .char n (fun i => if i = j then .int (nar .char x) else f i) → Ends p l e R s m args below meth c C S Q T' (mkF m q Ls st)) : Ends p l e R s m args below meth c C S Q T (mkF m pc Ls (.int x :: .int j :: .ref a :: st)) := by
  obtain ⟨cl, A, r1, r2, r3, r4⟩ := F
  obtain ⟨T', h', X', e', W', stp⟩ := stC X hx hZ eT A (j := j) (x := x) (inb_of r2 ⟨h1, h2⟩) (g := mkF m pc Ls (.int x :: .int j :: .ref a :: st)) rfl rfl hd
  subst hq
  exact step stp (kk T' h' X' e' W' (Ary.set A r1 r2 r3 r4 h1 h2 W'))
theorem bastoreB (X : Stand p l e R s m args below meth c T locs cells slots) (hx : p.tables.exec = Jvm.exec) (hZ : Z.Warmed39 s.vm) (eT : T.heap = h) (F : Ary Z h a k .byte n f) {x : Int32} (h1 : ¬ j < 0) (h2 : j < n) (hd : decode c.code pc = .ok (.bastore, 1)) (hq : pc + 1 = q)
    (kk : ∀ (T' : State) (h' : Heap), Stand p l e R s m args below meth c T' (locs ++ [⟨a, j.toNatClampNeg⟩]) cells slots → T'.heap = h' → Wr h h' a j.toNatClampNeg (.int (nar .byte x)) → Ary Z h' a k .byte n (fun i => if i = j then .int (nar .byte x) else f i) → Ends p l e R s m args below meth c C S Q T' (mkF m q Ls st)) : Ends p l e R s m args below meth c C S Q T (mkF m pc Ls (.int x :: .int j :: .ref a :: st)) := by
  obtain ⟨cl, A, r1, r2, r3, r4⟩ := F
  obtain ⟨T', h', X', e', W', stp⟩ := stB X hx hZ eT A (j := j) (x := x) (inb_of r2 ⟨h1, h2⟩) (g := mkF m pc Ls (.int x :: .int j :: .ref a :: st)) rfl rfl hd
  subst hq
  exact step stp (kk T' h' X' e' W' (Ary.set A r1 r2 r3 r4 h1 h2 W'))
theorem bastoreZ (X : Stand p l e R s m args below meth c T locs cells slots) (hx : p.tables.exec = Jvm.exec) (hZ : Z.Warmed39 s.vm) (eT : T.heap = h) (F : Ary Z h a k .boolean n f) {x : Int32} (h1 : ¬ j < 0) (h2 : j < n) (hd : decode c.code pc = .ok (.bastore, 1)) (hq : pc + 1 = q)
    (kk : ∀ (T' : State) (h' : Heap), Stand p l e R s m args below meth c T' (locs ++ [⟨a, j.toNatClampNeg⟩]) cells slots → T'.heap = h' → Wr h h' a j.toNatClampNeg (.int (nar .boolean x)) → Ary Z h' a k .boolean n (fun i => if i = j then .int (nar .boolean x) else f i) → Ends p l e R s m args below meth c C S Q T' (mkF m q Ls st)) : Ends p l e R s m args below meth c C S Q T (mkF m pc Ls (.int x :: .int j :: .ref a :: st)) := by
  obtain ⟨cl, A, r1, r2, r3, r4⟩ := F
  obtain ⟨T', h', X', e', W', stp⟩ := stZ X hx hZ eT A (j := j) (x := x) (inb_of r2 ⟨h1, h2⟩) (g := mkF m pc Ls (.int x :: .int j :: .ref a :: st)) rfl rfl hd
  subst hq
  exact step stp (kk T' h' X' e' W' (Ary.set A r1 r2 r3 r4 h1 h2 W'))
theorem aastore (X : Stand p l e R s m args below meth c T locs cells slots) (hx : p.tables.exec = Jvm.exec) (hZ : Z.Warmed39 s.vm) (eT : T.heap = h) {K : String} (F : Ary Z h a k (.object K) n f) (O : Ovr Z k K) {b : Addr} (I : Ins Z h b K true) (h1 : ¬ j < 0) (h2 : j < n) (hd : decode c.code pc = .ok (.aastore, 1)) (hq : pc + 1 = q)
    (kk : ∀ (T' : State) (h' : Heap), Stand p l e R s m args below meth c T' (locs ++ [⟨a, j.toNatClampNeg⟩]) cells slots → T'.heap = h' → Wr h h' a j.toNatClampNeg (.ref b) → Ary Z h' a k (.object K) n (fun i => if i = j then .ref b else f i) → Ends p l e R s m args below meth c C S Q T' (mkF m q Ls st)) : Ends p l e R s m args below meth c C S Q T (mkF m pc Ls (.ref b :: .int j :: .ref a :: st)) := by
  obtain ⟨cl, A, r1, r2, r3, r4⟩ := F
  subst r1
  obtain ⟨T', h', X', e', W', stp⟩ := stR X hx hZ eT A (j := j) (v := .ref b) (inb_of r2 ⟨h1, h2⟩) rfl (Sto.of A O I) (g := mkF m pc Ls (.ref b :: .int j :: .ref a :: st)) rfl rfl hd
  subst hq
  exact step stp (kk T' h' X' e' W' (Ary.set A rfl r2 r3 r4 h1 h2 W'))
theorem newarr (X : Stand p l e R s m args below meth c T locs cells slots) (hx : p.tables.exec = Jvm.exec) (hZ : Z.Warmed39 s.vm) {a0 : Array Value} (eT : T.heap = h) {aty : ArrayType} (w : (Jvm.Cond.arrayClass (newarray.typeOf aty)).before a0 Z = true) (hn : ¬ n < 0) {cap : Nat} (hcap : n.toNatClampNeg ≤ cap) (hb : cap * 8 ≤ 536870912) (hc : cells + 1 ≤ R.cells) (hl : slots + cap ≤ R.slots) (hd : decode c.code pc = .ok (.newarray aty, 2)) (hq : pc + 2 = q)
    (kk : ∀ (T' : State) (h' : Heap) (b : Addr) (k : ClassId), Stand p l e R s m args below meth c T' locs (cells + 1) (slots + cap) → T'.heap = h' → Ext h h' → b = h.size → Ary Z h' b k (newarray.typeOf aty) n (fun _ => defaultValue (newarray.typeOf aty)) → Ends p l e R s m args below meth c C S Q T' (mkF m q Ls (.ref b :: st))) : Ends p l e R s m args below meth c C S Q T (mkF m pc Ls (.int n :: st)) := by
  obtain ⟨T', h', k', X', e', E', A', stp⟩ := newP X hx hZ w eT (g := mkF m pc Ls (.int n :: st)) rfl hd rfl hn (cap := cap) hcap hb hc hl
  subst hq
  exact step stp (kk T' h' h.size k' X' e' E' rfl (Ary.new A' hn))
theorem newref (X : Stand p l e R s m args below meth c T locs cells slots) (hx : p.tables.exec = Jvm.exec) (hZ : Z.Warmed39 s.vm) {a0 : Array Value} {own K : String} {index : Nat} (hown : s.vm.findClass own = some m.cls) (eT : T.heap = h) (w1 : (Jvm.Cond.classLink own index K).before a0 Z = true) (w2 : (Jvm.Cond.arrayOver (.object K)).before a0 Z = true) (hn : ¬ n < 0) {cap : Nat} (hcap : n.toNatClampNeg ≤ cap) (hb : cap * 8 ≤ 536870912) (hc : cells + 1 ≤ R.cells) (hl : slots + cap ≤ R.slots) (hd : decode c.code pc = .ok (.anewarray index, 3)) (hq : pc + 3 = q)
    (kk : ∀ (T' : State) (h' : Heap) (b : Addr) (k : ClassId), Stand p l e R s m args below meth c T' locs (cells + 1) (slots + cap) → T'.heap = h' → Ext h h' → b = h.size → Ovr Z k K → Ary Z h' b k (.object K) n (fun _ => .null) → Ends p l e R s m args below meth c C S Q T' (mkF m q Ls (.ref b :: st))) : Ends p l e R s m args below meth c C S Q T (mkF m pc Ls (.int n :: st)) := by
  obtain ⟨T', h', k', X', e', E', A', O', stp⟩ := newR X hx hZ hown w1 w2 eT (g := mkF m pc Ls (.int n :: st)) rfl hd rfl hn (cap := cap) hcap hb hc hl
  subst hq
  exact step stp (kk T' h' h.size k' X' e' E' rfl O' (Ary.new A' hn))
end
end Jvm.EKit
namespace Jvm.Pilot.@@N@@
open Jvm Jvm.ClassFile Sem Op Lib Jvm.Free Jvm.Stand Jvm.LawKit Jvm.RoadKit Bundle Jvm.Pilot.@@N@@.Jvm.D Jvm.EKit
def own_pow (i : Int32) : Int64 := if i = 18 then 1000000000000000000 else if i = 17 then 100000000000000000 else if i = 16 then 10000000000000000 else if i = 15 then 1000000000000000 else if i = 14 then 100000000000000 else if i = 13 then 10000000000000 else if i = 12 then 1000000000000 else if i = 11 then 100000000000 else if i = 10 then 10000000000 else if i = 9 then 1000000000 else if i = 8 then 100000000 else if i = 7 then 10000000 else if i = 6 then 1000000 else if i = 5 then 100000 else if i = 4 then 10000 else if i = 3 then 1000 else if i = 2 then 100 else if i = 1 then 10 else if i = 0 then 1 else 0
theorem own_pow0 : own_pow 0 = 1 := by decide
theorem own_pow1 : own_pow 1 = 10 := by decide
theorem own_pow2 : own_pow 2 = 100 := by decide
theorem own_pow3 : own_pow 3 = 1000 := by decide
theorem own_pow4 : own_pow 4 = 10000 := by decide
theorem own_pow5 : own_pow 5 = 100000 := by decide
theorem own_pow6 : own_pow 6 = 1000000 := by decide
theorem own_pow7 : own_pow 7 = 10000000 := by decide
theorem own_pow8 : own_pow 8 = 100000000 := by decide
theorem own_pow9 : own_pow 9 = 1000000000 := by decide
theorem own_pow10 : own_pow 10 = 10000000000 := by decide
theorem own_pow11 : own_pow 11 = 100000000000 := by decide
theorem own_pow12 : own_pow 12 = 1000000000000 := by decide
theorem own_pow13 : own_pow 13 = 10000000000000 := by decide
theorem own_pow14 : own_pow 14 = 100000000000000 := by decide
theorem own_pow15 : own_pow 15 = 1000000000000000 := by decide
theorem own_pow16 : own_pow 16 = 10000000000000000 := by decide
theorem own_pow17 : own_pow 17 = 100000000000000000 := by decide
theorem own_pow18 : own_pow 18 = 1000000000000000000 := by decide
def own_len (q : Int64) : Int32 := if q < 10 then 1 else if q < 100 then 2 else if q < 1000 then 3 else if q < 10000 then 4 else if q < 100000 then 5 else if q < 1000000 then 6 else if q < 10000000 then 7 else if q < 100000000 then 8 else if q < 1000000000 then 9 else if q < 10000000000 then 10 else if q < 100000000000 then 11 else if q < 1000000000000 then 12 else if q < 10000000000000 then 13 else if q < 100000000000000 then 14 else if q < 1000000000000000 then 15 else if q < 10000000000000000 then 16 else if q < 100000000000000000 then 17 else if q < 1000000000000000000 then 18 else 19
theorem ef_rm2 (m : MethodId) (x0 : Int64) : entryFrame m #[(.long x0)] 3 = mkF m 0 #[.val (.long x0), .second, .unset] [] := by first | (simp [entryFrame, mkF, argsToLocals, Value.category]; done) | rfl
theorem pn_com_example_mirrorgauge_mirrorgauge_message_Decimal : plainName "com/example/mirrorgauge/mirrorgauge/message/Decimal" = true := by first | (simp [plainName, overriddenIn]; done) | decide +kernel
theorem d2_0 : decode prog_49_method_2_code 0 = .ok (.iconst 1, 1) := by decide +kernel
theorem d2_1 : decode prog_49_method_2_code 1 = .ok (.istore_n 2, 1) := by decide +kernel
theorem d2_2 : decode prog_49_method_2_code 2 = .ok (.iload_n 2, 1) := by decide +kernel
theorem d2_3 : decode prog_49_method_2_code 3 = .ok (.getstatic 9, 3) := by decide +kernel
theorem d2_6 : decode prog_49_method_2_code 6 = .ok (.arraylength, 1) := by decide +kernel
theorem d2_7 : decode prog_49_method_2_code 7 = .ok (.if_icmp .ge 19, 3) := by decide +kernel
theorem d2_10 : decode prog_49_method_2_code 10 = .ok (.lload_n 0, 1) := by decide +kernel
theorem d2_11 : decode prog_49_method_2_code 11 = .ok (.getstatic 9, 3) := by decide +kernel
theorem d2_14 : decode prog_49_method_2_code 14 = .ok (.iload_n 2, 1) := by decide +kernel
theorem d2_15 : decode prog_49_method_2_code 15 = .ok (.laload, 1) := by decide +kernel
theorem d2_16 : decode prog_49_method_2_code 16 = .ok (.lcmp, 1) := by decide +kernel
theorem d2_17 : decode prog_49_method_2_code 17 = .ok (.ifCond .lt 9, 3) := by decide +kernel
theorem d2_26 : decode prog_49_method_2_code 26 = .ok (.iload_n 2, 1) := by decide +kernel
theorem d2_27 : decode prog_49_method_2_code 27 = .ok (.ireturn, 1) := by decide +kernel
theorem d2_20 : decode prog_49_method_2_code 20 = .ok (.iinc 2 1, 3) := by decide +kernel
theorem d2_23 : decode prog_49_method_2_code 23 = .ok (.goto (-21), 3) := by decide +kernel
set_option maxRecDepth 65536 in
set_option maxHeartbeats 40000000 in
theorem rm2 (l : Launch) (Z : State) (a0 : Array Value) (hw : ∀ d ∈ tables_1, d.before a0 Z = true) (ws : List Jvm.Cond) (q0 : Int64) (h0 : Heap)  (w_P : Addr) (kk : ClassId) (S_P : Sta Z h0 "com/example/mirrorgauge/mirrorgauge/message/Decimal" "POWERS" "[J" (.ref w_P)) (A_P : Ary Z h0 w_P kk .long (19 : Int32) (fun j => .long (own_pow j))) :
    Pays l Z (⟨"com/example/mirrorgauge/mirrorgauge/message/Decimal", "length", "(J)I"⟩ : MethodName) prog_49_method_2_code 3 (some .int) ws ({ frames := 0, cells := 0, slots := 0, locals := 0 } : Room) #[(.long q0)] h0 (RetQ (some (.int (own_len q0))) h0) := by
  refine EKit.pays (plainFor_of_name pn_com_example_mirrorgauge_mirrorgauge_message_Decimal) (fun m => ef_rm2 m q0) ?_
  intro p e s m below meth c s₁ hx hby hml hZ hown hnm hret X0 e0 hs0
  refine EKit.iconst X0 hx (v := (1 : Int32)) rfl (hb hby d2_0) (q := 1) rfl ?_
  refine EKit.istoreN X0 hx (l' := #[.val (.long q0), .second, .val (.int (1 : Int32))]) rfl (hb hby d2_1) (q := 2) rfl ?_
  refine EKit.iloadN X0 hx rfl (hb hby d2_2) (q := 3) rfl ?_
  obtain ⟨T1, X1, e1, st1⟩ := getS X0 hx hZ (host := "") hown (hw _ (List.mem_of_getElem? (i := 9) rfl)) Via.refl e0 S_P (g := (mkF m 3 #[.val (.long q0), .second, .val (.int (1 : Int32))] [(.int (1 : Int32))])) rfl (hb hby d2_3)
  refine EKit.step st1 ?_
  show EKit.Ends p l e ({ frames := 0, cells := 0, slots := 0, locals := 0 } : Room) s m #[(.long q0)] below meth c ({ frames := 0, cells := 0, slots := 0, locals := 0 } : Room).cells ({ frames := 0, cells := 0, slots := 0, locals := 0 } : Room).slots (RetQ (some (.int (own_len q0))) h0) T1 (mkF m 6 #[.val (.long q0), .second, .val (.int (1 : Int32))] [(.ref w_P), (.int (1 : Int32))])
  refine EKit.alen X1 hx hZ e1 A_P (hb hby d2_6) (q := 7) rfl ?_
  have h7 : (1 : Int32) < (19 : Int32) := by decide
  refine EKit.icmpNo X1 hx ((tlt h7).2.1) (hb hby d2_7) (q := 10) rfl ?_
  refine EKit.lloadN X1 hx rfl (hb hby d2_10) (q := 11) rfl ?_
  obtain ⟨T2, X2, e2, st2⟩ := getS X1 hx hZ (host := "") hown (hw _ (List.mem_of_getElem? (i := 9) rfl)) Via.refl e1 S_P (g := (mkF m 11 #[.val (.long q0), .second, .val (.int (1 : Int32))] [(.long q0)])) rfl (hb hby d2_11)
  refine EKit.step st2 ?_
  show EKit.Ends p l e ({ frames := 0, cells := 0, slots := 0, locals := 0 } : Room) s m #[(.long q0)] below meth c ({ frames := 0, cells := 0, slots := 0, locals := 0 } : Room).cells ({ frames := 0, cells := 0, slots := 0, locals := 0 } : Room).slots (RetQ (some (.int (own_len q0))) h0) T2 (mkF m 14 #[.val (.long q0), .second, .val (.int (1 : Int32))] [(.ref w_P), (.long q0)])
  refine EKit.iloadN X2 hx rfl (hb hby d2_14) (q := 15) rfl ?_
  refine EKit.laload X2 hx hZ e2 A_P (by decide) (by decide) (v := (.long (10 : Int64))) (congrArg Value.long own_pow1) (hb hby d2_15) (q := 16) rfl ?_
  refine EKit.lcmp X2 hx  (hb hby d2_16) (q := 17) rfl ?_
  by_cases h17 : q0 < (10 : Int64)
  · skip
    refine EKit.ifYes X2 hx (EKit.c_t (tlt (EKit.l_t h17)).1) (hb hby d2_17) (by decide) (q := 26) (by decide) ?_
    refine EKit.iloadN X2 hx rfl (hb hby d2_26) (q := 27) rfl ?_
    exact EKit.retI X2 hx hret (hb hby d2_27) (⟨by simp [own_len, h17], e2, rfl⟩) (by decide) (by decide)
  · skip
    refine EKit.ifNo X2 hx (EKit.c_t (flt (EKit.l_f h17)).1) (hb hby d2_17) (q := 20) rfl ?_
    refine EKit.iinc X2 hx (k0 := 2) (cst := 1) rfl (v := (2 : Int32)) rfl (l' := #[.val (.long q0), .second, .val (.int (2 : Int32))]) rfl (hb hby d2_20) (q := 23) rfl ?_
    refine EKit.goto X2 hx (hb hby d2_23) (by decide) (q := 2) (by decide) ?_
    refine EKit.iloadN X2 hx rfl (hb hby d2_2) (q := 3) rfl ?_
    obtain ⟨T3, X3, e3, st3⟩ := getS X2 hx hZ (host := "") hown (hw _ (List.mem_of_getElem? (i := 9) rfl)) Via.refl e2 S_P (g := (mkF m 3 #[.val (.long q0), .second, .val (.int (2 : Int32))] [(.int (2 : Int32))])) rfl (hb hby d2_3)
    refine EKit.step st3 ?_
    show EKit.Ends p l e ({ frames := 0, cells := 0, slots := 0, locals := 0 } : Room) s m #[(.long q0)] below meth c ({ frames := 0, cells := 0, slots := 0, locals := 0 } : Room).cells ({ frames := 0, cells := 0, slots := 0, locals := 0 } : Room).slots (RetQ (some (.int (own_len q0))) h0) T3 (mkF m 6 #[.val (.long q0), .second, .val (.int (2 : Int32))] [(.ref w_P), (.int (2 : Int32))])
    refine EKit.alen X3 hx hZ e3 A_P (hb hby d2_6) (q := 7) rfl ?_
    have h7_4 : (2 : Int32) < (19 : Int32) := by decide
    refine EKit.icmpNo X3 hx ((tlt h7_4).2.1) (hb hby d2_7) (q := 10) rfl ?_
    refine EKit.lloadN X3 hx rfl (hb hby d2_10) (q := 11) rfl ?_
    obtain ⟨T5, X5, e5, st5⟩ := getS X3 hx hZ (host := "") hown (hw _ (List.mem_of_getElem? (i := 9) rfl)) Via.refl e3 S_P (g := (mkF m 11 #[.val (.long q0), .second, .val (.int (2 : Int32))] [(.long q0)])) rfl (hb hby d2_11)
    refine EKit.step st5 ?_
    show EKit.Ends p l e ({ frames := 0, cells := 0, slots := 0, locals := 0 } : Room) s m #[(.long q0)] below meth c ({ frames := 0, cells := 0, slots := 0, locals := 0 } : Room).cells ({ frames := 0, cells := 0, slots := 0, locals := 0 } : Room).slots (RetQ (some (.int (own_len q0))) h0) T5 (mkF m 14 #[.val (.long q0), .second, .val (.int (2 : Int32))] [(.ref w_P), (.long q0)])
    refine EKit.iloadN X5 hx rfl (hb hby d2_14) (q := 15) rfl ?_
    refine EKit.laload X5 hx hZ e5 A_P (by decide) (by decide) (v := (.long (100 : Int64))) (congrArg Value.long own_pow2) (hb hby d2_15) (q := 16) rfl ?_
    refine EKit.lcmp X5 hx  (hb hby d2_16) (q := 17) rfl ?_
    by_cases h17_6 : q0 < (100 : Int64)
    · skip
      refine EKit.ifYes X5 hx (EKit.c_t (tlt (EKit.l_t h17_6)).1) (hb hby d2_17) (by decide) (q := 26) (by decide) ?_
      refine EKit.iloadN X5 hx rfl (hb hby d2_26) (q := 27) rfl ?_
      exact EKit.retI X5 hx hret (hb hby d2_27) (⟨by simp [own_len, h17, h17_6], e5, rfl⟩) (by decide) (by decide)
    · skip
      refine EKit.ifNo X5 hx (EKit.c_t (flt (EKit.l_f h17_6)).1) (hb hby d2_17) (q := 20) rfl ?_
      refine EKit.iinc X5 hx (k0 := 2) (cst := 1) rfl (v := (3 : Int32)) rfl (l' := #[.val (.long q0), .second, .val (.int (3 : Int32))]) rfl (hb hby d2_20) (q := 23) rfl ?_
      refine EKit.goto X5 hx (hb hby d2_23) (by decide) (q := 2) (by decide) ?_
      refine EKit.iloadN X5 hx rfl (hb hby d2_2) (q := 3) rfl ?_
      obtain ⟨T7, X7, e7, st7⟩ := getS X5 hx hZ (host := "") hown (hw _ (List.mem_of_getElem? (i := 9) rfl)) Via.refl e5 S_P (g := (mkF m 3 #[.val (.long q0), .second, .val (.int (3 : Int32))] [(.int (3 : Int32))])) rfl (hb hby d2_3)
      refine EKit.step st7 ?_
      show EKit.Ends p l e ({ frames := 0, cells := 0, slots := 0, locals := 0 } : Room) s m #[(.long q0)] below meth c ({ frames := 0, cells := 0, slots := 0, locals := 0 } : Room).cells ({ frames := 0, cells := 0, slots := 0, locals := 0 } : Room).slots (RetQ (some (.int (own_len q0))) h0) T7 (mkF m 6 #[.val (.long q0), .second, .val (.int (3 : Int32))] [(.ref w_P), (.int (3 : Int32))])
      refine EKit.alen X7 hx hZ e7 A_P (hb hby d2_6) (q := 7) rfl ?_
      have h7_8 : (3 : Int32) < (19 : Int32) := by decide
      refine EKit.icmpNo X7 hx ((tlt h7_8).2.1) (hb hby d2_7) (q := 10) rfl ?_
      refine EKit.lloadN X7 hx rfl (hb hby d2_10) (q := 11) rfl ?_
      obtain ⟨T9, X9, e9, st9⟩ := getS X7 hx hZ (host := "") hown (hw _ (List.mem_of_getElem? (i := 9) rfl)) Via.refl e7 S_P (g := (mkF m 11 #[.val (.long q0), .second, .val (.int (3 : Int32))] [(.long q0)])) rfl (hb hby d2_11)
      refine EKit.step st9 ?_
      show EKit.Ends p l e ({ frames := 0, cells := 0, slots := 0, locals := 0 } : Room) s m #[(.long q0)] below meth c ({ frames := 0, cells := 0, slots := 0, locals := 0 } : Room).cells ({ frames := 0, cells := 0, slots := 0, locals := 0 } : Room).slots (RetQ (some (.int (own_len q0))) h0) T9 (mkF m 14 #[.val (.long q0), .second, .val (.int (3 : Int32))] [(.ref w_P), (.long q0)])
      refine EKit.iloadN X9 hx rfl (hb hby d2_14) (q := 15) rfl ?_
      refine EKit.laload X9 hx hZ e9 A_P (by decide) (by decide) (v := (.long (1000 : Int64))) (congrArg Value.long own_pow3) (hb hby d2_15) (q := 16) rfl ?_
      refine EKit.lcmp X9 hx  (hb hby d2_16) (q := 17) rfl ?_
      by_cases h17_10 : q0 < (1000 : Int64)
      · skip
        refine EKit.ifYes X9 hx (EKit.c_t (tlt (EKit.l_t h17_10)).1) (hb hby d2_17) (by decide) (q := 26) (by decide) ?_
        refine EKit.iloadN X9 hx rfl (hb hby d2_26) (q := 27) rfl ?_
        exact EKit.retI X9 hx hret (hb hby d2_27) (⟨by simp [own_len, h17, h17_6, h17_10], e9, rfl⟩) (by decide) (by decide)
      · skip
        refine EKit.ifNo X9 hx (EKit.c_t (flt (EKit.l_f h17_10)).1) (hb hby d2_17) (q := 20) rfl ?_
        refine EKit.iinc X9 hx (k0 := 2) (cst := 1) rfl (v := (4 : Int32)) rfl (l' := #[.val (.long q0), .second, .val (.int (4 : Int32))]) rfl (hb hby d2_20) (q := 23) rfl ?_
        refine EKit.goto X9 hx (hb hby d2_23) (by decide) (q := 2) (by decide) ?_
        refine EKit.iloadN X9 hx rfl (hb hby d2_2) (q := 3) rfl ?_
        obtain ⟨T11, X11, e11, st11⟩ := getS X9 hx hZ (host := "") hown (hw _ (List.mem_of_getElem? (i := 9) rfl)) Via.refl e9 S_P (g := (mkF m 3 #[.val (.long q0), .second, .val (.int (4 : Int32))] [(.int (4 : Int32))])) rfl (hb hby d2_3)
        refine EKit.step st11 ?_
        show EKit.Ends p l e ({ frames := 0, cells := 0, slots := 0, locals := 0 } : Room) s m #[(.long q0)] below meth c ({ frames := 0, cells := 0, slots := 0, locals := 0 } : Room).cells ({ frames := 0, cells := 0, slots := 0, locals := 0 } : Room).slots (RetQ (some (.int (own_len q0))) h0) T11 (mkF m 6 #[.val (.long q0), .second, .val (.int (4 : Int32))] [(.ref w_P), (.int (4 : Int32))])
        refine EKit.alen X11 hx hZ e11 A_P (hb hby d2_6) (q := 7) rfl ?_
        have h7_12 : (4 : Int32) < (19 : Int32) := by decide
        refine EKit.icmpNo X11 hx ((tlt h7_12).2.1) (hb hby d2_7) (q := 10) rfl ?_
        refine EKit.lloadN X11 hx rfl (hb hby d2_10) (q := 11) rfl ?_
        obtain ⟨T13, X13, e13, st13⟩ := getS X11 hx hZ (host := "") hown (hw _ (List.mem_of_getElem? (i := 9) rfl)) Via.refl e11 S_P (g := (mkF m 11 #[.val (.long q0), .second, .val (.int (4 : Int32))] [(.long q0)])) rfl (hb hby d2_11)
        refine EKit.step st13 ?_
        show EKit.Ends p l e ({ frames := 0, cells := 0, slots := 0, locals := 0 } : Room) s m #[(.long q0)] below meth c ({ frames := 0, cells := 0, slots := 0, locals := 0 } : Room).cells ({ frames := 0, cells := 0, slots := 0, locals := 0 } : Room).slots (RetQ (some (.int (own_len q0))) h0) T13 (mkF m 14 #[.val (.long q0), .second, .val (.int (4 : Int32))] [(.ref w_P), (.long q0)])
        refine EKit.iloadN X13 hx rfl (hb hby d2_14) (q := 15) rfl ?_
        refine EKit.laload X13 hx hZ e13 A_P (by decide) (by decide) (v := (.long (10000 : Int64))) (congrArg Value.long own_pow4) (hb hby d2_15) (q := 16) rfl ?_
        refine EKit.lcmp X13 hx  (hb hby d2_16) (q := 17) rfl ?_
        by_cases h17_14 : q0 < (10000 : Int64)
        · skip
          refine EKit.ifYes X13 hx (EKit.c_t (tlt (EKit.l_t h17_14)).1) (hb hby d2_17) (by decide) (q := 26) (by decide) ?_
          refine EKit.iloadN X13 hx rfl (hb hby d2_26) (q := 27) rfl ?_
          exact EKit.retI X13 hx hret (hb hby d2_27) (⟨by simp [own_len, h17, h17_6, h17_10, h17_14], e13, rfl⟩) (by decide) (by decide)
        · skip
          refine EKit.ifNo X13 hx (EKit.c_t (flt (EKit.l_f h17_14)).1) (hb hby d2_17) (q := 20) rfl ?_
          refine EKit.iinc X13 hx (k0 := 2) (cst := 1) rfl (v := (5 : Int32)) rfl (l' := #[.val (.long q0), .second, .val (.int (5 : Int32))]) rfl (hb hby d2_20) (q := 23) rfl ?_
          refine EKit.goto X13 hx (hb hby d2_23) (by decide) (q := 2) (by decide) ?_
          refine EKit.iloadN X13 hx rfl (hb hby d2_2) (q := 3) rfl ?_
          obtain ⟨T15, X15, e15, st15⟩ := getS X13 hx hZ (host := "") hown (hw _ (List.mem_of_getElem? (i := 9) rfl)) Via.refl e13 S_P (g := (mkF m 3 #[.val (.long q0), .second, .val (.int (5 : Int32))] [(.int (5 : Int32))])) rfl (hb hby d2_3)
          refine EKit.step st15 ?_
          show EKit.Ends p l e ({ frames := 0, cells := 0, slots := 0, locals := 0 } : Room) s m #[(.long q0)] below meth c ({ frames := 0, cells := 0, slots := 0, locals := 0 } : Room).cells ({ frames := 0, cells := 0, slots := 0, locals := 0 } : Room).slots (RetQ (some (.int (own_len q0))) h0) T15 (mkF m 6 #[.val (.long q0), .second, .val (.int (5 : Int32))] [(.ref w_P), (.int (5 : Int32))])
          refine EKit.alen X15 hx hZ e15 A_P (hb hby d2_6) (q := 7) rfl ?_
          have h7_16 : (5 : Int32) < (19 : Int32) := by decide
          refine EKit.icmpNo X15 hx ((tlt h7_16).2.1) (hb hby d2_7) (q := 10) rfl ?_
          refine EKit.lloadN X15 hx rfl (hb hby d2_10) (q := 11) rfl ?_
          obtain ⟨T17, X17, e17, st17⟩ := getS X15 hx hZ (host := "") hown (hw _ (List.mem_of_getElem? (i := 9) rfl)) Via.refl e15 S_P (g := (mkF m 11 #[.val (.long q0), .second, .val (.int (5 : Int32))] [(.long q0)])) rfl (hb hby d2_11)
          refine EKit.step st17 ?_
          show EKit.Ends p l e ({ frames := 0, cells := 0, slots := 0, locals := 0 } : Room) s m #[(.long q0)] below meth c ({ frames := 0, cells := 0, slots := 0, locals := 0 } : Room).cells ({ frames := 0, cells := 0, slots := 0, locals := 0 } : Room).slots (RetQ (some (.int (own_len q0))) h0) T17 (mkF m 14 #[.val (.long q0), .second, .val (.int (5 : Int32))] [(.ref w_P), (.long q0)])
          refine EKit.iloadN X17 hx rfl (hb hby d2_14) (q := 15) rfl ?_
          refine EKit.laload X17 hx hZ e17 A_P (by decide) (by decide) (v := (.long (100000 : Int64))) (congrArg Value.long own_pow5) (hb hby d2_15) (q := 16) rfl ?_
          refine EKit.lcmp X17 hx  (hb hby d2_16) (q := 17) rfl ?_
          by_cases h17_18 : q0 < (100000 : Int64)
          · skip
            refine EKit.ifYes X17 hx (EKit.c_t (tlt (EKit.l_t h17_18)).1) (hb hby d2_17) (by decide) (q := 26) (by decide) ?_
            refine EKit.iloadN X17 hx rfl (hb hby d2_26) (q := 27) rfl ?_
            exact EKit.retI X17 hx hret (hb hby d2_27) (⟨by simp [own_len, h17, h17_6, h17_10, h17_14, h17_18], e17, rfl⟩) (by decide) (by decide)
          · skip
            refine EKit.ifNo X17 hx (EKit.c_t (flt (EKit.l_f h17_18)).1) (hb hby d2_17) (q := 20) rfl ?_
            refine EKit.iinc X17 hx (k0 := 2) (cst := 1) rfl (v := (6 : Int32)) rfl (l' := #[.val (.long q0), .second, .val (.int (6 : Int32))]) rfl (hb hby d2_20) (q := 23) rfl ?_
            refine EKit.goto X17 hx (hb hby d2_23) (by decide) (q := 2) (by decide) ?_
            refine EKit.iloadN X17 hx rfl (hb hby d2_2) (q := 3) rfl ?_
            obtain ⟨T19, X19, e19, st19⟩ := getS X17 hx hZ (host := "") hown (hw _ (List.mem_of_getElem? (i := 9) rfl)) Via.refl e17 S_P (g := (mkF m 3 #[.val (.long q0), .second, .val (.int (6 : Int32))] [(.int (6 : Int32))])) rfl (hb hby d2_3)
            refine EKit.step st19 ?_
            show EKit.Ends p l e ({ frames := 0, cells := 0, slots := 0, locals := 0 } : Room) s m #[(.long q0)] below meth c ({ frames := 0, cells := 0, slots := 0, locals := 0 } : Room).cells ({ frames := 0, cells := 0, slots := 0, locals := 0 } : Room).slots (RetQ (some (.int (own_len q0))) h0) T19 (mkF m 6 #[.val (.long q0), .second, .val (.int (6 : Int32))] [(.ref w_P), (.int (6 : Int32))])
            refine EKit.alen X19 hx hZ e19 A_P (hb hby d2_6) (q := 7) rfl ?_
            have h7_20 : (6 : Int32) < (19 : Int32) := by decide
            refine EKit.icmpNo X19 hx ((tlt h7_20).2.1) (hb hby d2_7) (q := 10) rfl ?_
            refine EKit.lloadN X19 hx rfl (hb hby d2_10) (q := 11) rfl ?_
            obtain ⟨T21, X21, e21, st21⟩ := getS X19 hx hZ (host := "") hown (hw _ (List.mem_of_getElem? (i := 9) rfl)) Via.refl e19 S_P (g := (mkF m 11 #[.val (.long q0), .second, .val (.int (6 : Int32))] [(.long q0)])) rfl (hb hby d2_11)
            refine EKit.step st21 ?_
            show EKit.Ends p l e ({ frames := 0, cells := 0, slots := 0, locals := 0 } : Room) s m #[(.long q0)] below meth c ({ frames := 0, cells := 0, slots := 0, locals := 0 } : Room).cells ({ frames := 0, cells := 0, slots := 0, locals := 0 } : Room).slots (RetQ (some (.int (own_len q0))) h0) T21 (mkF m 14 #[.val (.long q0), .second, .val (.int (6 : Int32))] [(.ref w_P), (.long q0)])
            refine EKit.iloadN X21 hx rfl (hb hby d2_14) (q := 15) rfl ?_
            refine EKit.laload X21 hx hZ e21 A_P (by decide) (by decide) (v := (.long (1000000 : Int64))) (congrArg Value.long own_pow6) (hb hby d2_15) (q := 16) rfl ?_
            refine EKit.lcmp X21 hx  (hb hby d2_16) (q := 17) rfl ?_
            by_cases h17_22 : q0 < (1000000 : Int64)
            · skip
              refine EKit.ifYes X21 hx (EKit.c_t (tlt (EKit.l_t h17_22)).1) (hb hby d2_17) (by decide) (q := 26) (by decide) ?_
              refine EKit.iloadN X21 hx rfl (hb hby d2_26) (q := 27) rfl ?_
              exact EKit.retI X21 hx hret (hb hby d2_27) (⟨by simp [own_len, h17, h17_6, h17_10, h17_14, h17_18, h17_22], e21, rfl⟩) (by decide) (by decide)
            · skip
              refine EKit.ifNo X21 hx (EKit.c_t (flt (EKit.l_f h17_22)).1) (hb hby d2_17) (q := 20) rfl ?_
              refine EKit.iinc X21 hx (k0 := 2) (cst := 1) rfl (v := (7 : Int32)) rfl (l' := #[.val (.long q0), .second, .val (.int (7 : Int32))]) rfl (hb hby d2_20) (q := 23) rfl ?_
              refine EKit.goto X21 hx (hb hby d2_23) (by decide) (q := 2) (by decide) ?_
              refine EKit.iloadN X21 hx rfl (hb hby d2_2) (q := 3) rfl ?_
              obtain ⟨T23, X23, e23, st23⟩ := getS X21 hx hZ (host := "") hown (hw _ (List.mem_of_getElem? (i := 9) rfl)) Via.refl e21 S_P (g := (mkF m 3 #[.val (.long q0), .second, .val (.int (7 : Int32))] [(.int (7 : Int32))])) rfl (hb hby d2_3)
              refine EKit.step st23 ?_
              show EKit.Ends p l e ({ frames := 0, cells := 0, slots := 0, locals := 0 } : Room) s m #[(.long q0)] below meth c ({ frames := 0, cells := 0, slots := 0, locals := 0 } : Room).cells ({ frames := 0, cells := 0, slots := 0, locals := 0 } : Room).slots (RetQ (some (.int (own_len q0))) h0) T23 (mkF m 6 #[.val (.long q0), .second, .val (.int (7 : Int32))] [(.ref w_P), (.int (7 : Int32))])
              refine EKit.alen X23 hx hZ e23 A_P (hb hby d2_6) (q := 7) rfl ?_
              have h7_24 : (7 : Int32) < (19 : Int32) := by decide
              refine EKit.icmpNo X23 hx ((tlt h7_24).2.1) (hb hby d2_7) (q := 10) rfl ?_
              refine EKit.lloadN X23 hx rfl (hb hby d2_10) (q := 11) rfl ?_
              obtain ⟨T25, X25, e25, st25⟩ := getS X23 hx hZ (host := "") hown (hw _ (List.mem_of_getElem? (i := 9) rfl)) Via.refl e23 S_P (g := (mkF m 11 #[.val (.long q0), .second, .val (.int (7 : Int32))] [(.long q0)])) rfl (hb hby d2_11)
              refine EKit.step st25 ?_
              show EKit.Ends p l e ({ frames := 0, cells := 0, slots := 0, locals := 0 } : Room) s m #[(.long q0)] below meth c ({ frames := 0, cells := 0, slots := 0, locals := 0 } : Room).cells ({ frames := 0, cells := 0, slots := 0, locals := 0 } : Room).slots (RetQ (some (.int (own_len q0))) h0) T25 (mkF m 14 #[.val (.long q0), .second, .val (.int (7 : Int32))] [(.ref w_P), (.long q0)])
              refine EKit.iloadN X25 hx rfl (hb hby d2_14) (q := 15) rfl ?_
              refine EKit.laload X25 hx hZ e25 A_P (by decide) (by decide) (v := (.long (10000000 : Int64))) (congrArg Value.long own_pow7) (hb hby d2_15) (q := 16) rfl ?_
              refine EKit.lcmp X25 hx  (hb hby d2_16) (q := 17) rfl ?_
              by_cases h17_26 : q0 < (10000000 : Int64)
              · skip
                refine EKit.ifYes X25 hx (EKit.c_t (tlt (EKit.l_t h17_26)).1) (hb hby d2_17) (by decide) (q := 26) (by decide) ?_
                refine EKit.iloadN X25 hx rfl (hb hby d2_26) (q := 27) rfl ?_
                exact EKit.retI X25 hx hret (hb hby d2_27) (⟨by simp [own_len, h17, h17_6, h17_10, h17_14, h17_18, h17_22, h17_26], e25, rfl⟩) (by decide) (by decide)
              · skip
                refine EKit.ifNo X25 hx (EKit.c_t (flt (EKit.l_f h17_26)).1) (hb hby d2_17) (q := 20) rfl ?_
                refine EKit.iinc X25 hx (k0 := 2) (cst := 1) rfl (v := (8 : Int32)) rfl (l' := #[.val (.long q0), .second, .val (.int (8 : Int32))]) rfl (hb hby d2_20) (q := 23) rfl ?_
                refine EKit.goto X25 hx (hb hby d2_23) (by decide) (q := 2) (by decide) ?_
                refine EKit.iloadN X25 hx rfl (hb hby d2_2) (q := 3) rfl ?_
                obtain ⟨T27, X27, e27, st27⟩ := getS X25 hx hZ (host := "") hown (hw _ (List.mem_of_getElem? (i := 9) rfl)) Via.refl e25 S_P (g := (mkF m 3 #[.val (.long q0), .second, .val (.int (8 : Int32))] [(.int (8 : Int32))])) rfl (hb hby d2_3)
                refine EKit.step st27 ?_
                show EKit.Ends p l e ({ frames := 0, cells := 0, slots := 0, locals := 0 } : Room) s m #[(.long q0)] below meth c ({ frames := 0, cells := 0, slots := 0, locals := 0 } : Room).cells ({ frames := 0, cells := 0, slots := 0, locals := 0 } : Room).slots (RetQ (some (.int (own_len q0))) h0) T27 (mkF m 6 #[.val (.long q0), .second, .val (.int (8 : Int32))] [(.ref w_P), (.int (8 : Int32))])
                refine EKit.alen X27 hx hZ e27 A_P (hb hby d2_6) (q := 7) rfl ?_
                have h7_28 : (8 : Int32) < (19 : Int32) := by decide
                refine EKit.icmpNo X27 hx ((tlt h7_28).2.1) (hb hby d2_7) (q := 10) rfl ?_
                refine EKit.lloadN X27 hx rfl (hb hby d2_10) (q := 11) rfl ?_
                obtain ⟨T29, X29, e29, st29⟩ := getS X27 hx hZ (host := "") hown (hw _ (List.mem_of_getElem? (i := 9) rfl)) Via.refl e27 S_P (g := (mkF m 11 #[.val (.long q0), .second, .val (.int (8 : Int32))] [(.long q0)])) rfl (hb hby d2_11)
                refine EKit.step st29 ?_
                show EKit.Ends p l e ({ frames := 0, cells := 0, slots := 0, locals := 0 } : Room) s m #[(.long q0)] below meth c ({ frames := 0, cells := 0, slots := 0, locals := 0 } : Room).cells ({ frames := 0, cells := 0, slots := 0, locals := 0 } : Room).slots (RetQ (some (.int (own_len q0))) h0) T29 (mkF m 14 #[.val (.long q0), .second, .val (.int (8 : Int32))] [(.ref w_P), (.long q0)])
                refine EKit.iloadN X29 hx rfl (hb hby d2_14) (q := 15) rfl ?_
                refine EKit.laload X29 hx hZ e29 A_P (by decide) (by decide) (v := (.long (100000000 : Int64))) (congrArg Value.long own_pow8) (hb hby d2_15) (q := 16) rfl ?_
                refine EKit.lcmp X29 hx  (hb hby d2_16) (q := 17) rfl ?_
                by_cases h17_30 : q0 < (100000000 : Int64)
                · skip
                  refine EKit.ifYes X29 hx (EKit.c_t (tlt (EKit.l_t h17_30)).1) (hb hby d2_17) (by decide) (q := 26) (by decide) ?_
                  refine EKit.iloadN X29 hx rfl (hb hby d2_26) (q := 27) rfl ?_
                  exact EKit.retI X29 hx hret (hb hby d2_27) (⟨by simp [own_len, h17, h17_6, h17_10, h17_14, h17_18, h17_22, h17_26, h17_30], e29, rfl⟩) (by decide) (by decide)
                · skip
                  refine EKit.ifNo X29 hx (EKit.c_t (flt (EKit.l_f h17_30)).1) (hb hby d2_17) (q := 20) rfl ?_
                  refine EKit.iinc X29 hx (k0 := 2) (cst := 1) rfl (v := (9 : Int32)) rfl (l' := #[.val (.long q0), .second, .val (.int (9 : Int32))]) rfl (hb hby d2_20) (q := 23) rfl ?_
                  refine EKit.goto X29 hx (hb hby d2_23) (by decide) (q := 2) (by decide) ?_
                  refine EKit.iloadN X29 hx rfl (hb hby d2_2) (q := 3) rfl ?_
                  obtain ⟨T31, X31, e31, st31⟩ := getS X29 hx hZ (host := "") hown (hw _ (List.mem_of_getElem? (i := 9) rfl)) Via.refl e29 S_P (g := (mkF m 3 #[.val (.long q0), .second, .val (.int (9 : Int32))] [(.int (9 : Int32))])) rfl (hb hby d2_3)
                  refine EKit.step st31 ?_
                  show EKit.Ends p l e ({ frames := 0, cells := 0, slots := 0, locals := 0 } : Room) s m #[(.long q0)] below meth c ({ frames := 0, cells := 0, slots := 0, locals := 0 } : Room).cells ({ frames := 0, cells := 0, slots := 0, locals := 0 } : Room).slots (RetQ (some (.int (own_len q0))) h0) T31 (mkF m 6 #[.val (.long q0), .second, .val (.int (9 : Int32))] [(.ref w_P), (.int (9 : Int32))])
                  refine EKit.alen X31 hx hZ e31 A_P (hb hby d2_6) (q := 7) rfl ?_
                  have h7_32 : (9 : Int32) < (19 : Int32) := by decide
                  refine EKit.icmpNo X31 hx ((tlt h7_32).2.1) (hb hby d2_7) (q := 10) rfl ?_
                  refine EKit.lloadN X31 hx rfl (hb hby d2_10) (q := 11) rfl ?_
                  obtain ⟨T33, X33, e33, st33⟩ := getS X31 hx hZ (host := "") hown (hw _ (List.mem_of_getElem? (i := 9) rfl)) Via.refl e31 S_P (g := (mkF m 11 #[.val (.long q0), .second, .val (.int (9 : Int32))] [(.long q0)])) rfl (hb hby d2_11)
                  refine EKit.step st33 ?_
                  show EKit.Ends p l e ({ frames := 0, cells := 0, slots := 0, locals := 0 } : Room) s m #[(.long q0)] below meth c ({ frames := 0, cells := 0, slots := 0, locals := 0 } : Room).cells ({ frames := 0, cells := 0, slots := 0, locals := 0 } : Room).slots (RetQ (some (.int (own_len q0))) h0) T33 (mkF m 14 #[.val (.long q0), .second, .val (.int (9 : Int32))] [(.ref w_P), (.long q0)])
                  refine EKit.iloadN X33 hx rfl (hb hby d2_14) (q := 15) rfl ?_
                  refine EKit.laload X33 hx hZ e33 A_P (by decide) (by decide) (v := (.long (1000000000 : Int64))) (congrArg Value.long own_pow9) (hb hby d2_15) (q := 16) rfl ?_
                  refine EKit.lcmp X33 hx  (hb hby d2_16) (q := 17) rfl ?_
                  by_cases h17_34 : q0 < (1000000000 : Int64)
                  · skip
                    refine EKit.ifYes X33 hx (EKit.c_t (tlt (EKit.l_t h17_34)).1) (hb hby d2_17) (by decide) (q := 26) (by decide) ?_
                    refine EKit.iloadN X33 hx rfl (hb hby d2_26) (q := 27) rfl ?_
                    exact EKit.retI X33 hx hret (hb hby d2_27) (⟨by simp [own_len, h17, h17_6, h17_10, h17_14, h17_18, h17_22, h17_26, h17_30, h17_34], e33, rfl⟩) (by decide) (by decide)
                  · skip
                    refine EKit.ifNo X33 hx (EKit.c_t (flt (EKit.l_f h17_34)).1) (hb hby d2_17) (q := 20) rfl ?_
                    refine EKit.iinc X33 hx (k0 := 2) (cst := 1) rfl (v := (10 : Int32)) rfl (l' := #[.val (.long q0), .second, .val (.int (10 : Int32))]) rfl (hb hby d2_20) (q := 23) rfl ?_
                    refine EKit.goto X33 hx (hb hby d2_23) (by decide) (q := 2) (by decide) ?_
                    refine EKit.iloadN X33 hx rfl (hb hby d2_2) (q := 3) rfl ?_
                    obtain ⟨T35, X35, e35, st35⟩ := getS X33 hx hZ (host := "") hown (hw _ (List.mem_of_getElem? (i := 9) rfl)) Via.refl e33 S_P (g := (mkF m 3 #[.val (.long q0), .second, .val (.int (10 : Int32))] [(.int (10 : Int32))])) rfl (hb hby d2_3)
                    refine EKit.step st35 ?_
                    show EKit.Ends p l e ({ frames := 0, cells := 0, slots := 0, locals := 0 } : Room) s m #[(.long q0)] below meth c ({ frames := 0, cells := 0, slots := 0, locals := 0 } : Room).cells ({ frames := 0, cells := 0, slots := 0, locals := 0 } : Room).slots (RetQ (some (.int (own_len q0))) h0) T35 (mkF m 6 #[.val (.long q0), .second, .val (.int (10 : Int32))] [(.ref w_P), (.int (10 : Int32))])
                    refine EKit.alen X35 hx hZ e35 A_P (hb hby d2_6) (q := 7) rfl ?_
                    have h7_36 : (10 : Int32) < (19 : Int32) := by decide
                    refine EKit.icmpNo X35 hx ((tlt h7_36).2.1) (hb hby d2_7) (q := 10) rfl ?_
                    refine EKit.lloadN X35 hx rfl (hb hby d2_10) (q := 11) rfl ?_
                    obtain ⟨T37, X37, e37, st37⟩ := getS X35 hx hZ (host := "") hown (hw _ (List.mem_of_getElem? (i := 9) rfl)) Via.refl e35 S_P (g := (mkF m 11 #[.val (.long q0), .second, .val (.int (10 : Int32))] [(.long q0)])) rfl (hb hby d2_11)
                    refine EKit.step st37 ?_
                    show EKit.Ends p l e ({ frames := 0, cells := 0, slots := 0, locals := 0 } : Room) s m #[(.long q0)] below meth c ({ frames := 0, cells := 0, slots := 0, locals := 0 } : Room).cells ({ frames := 0, cells := 0, slots := 0, locals := 0 } : Room).slots (RetQ (some (.int (own_len q0))) h0) T37 (mkF m 14 #[.val (.long q0), .second, .val (.int (10 : Int32))] [(.ref w_P), (.long q0)])
                    refine EKit.iloadN X37 hx rfl (hb hby d2_14) (q := 15) rfl ?_
                    refine EKit.laload X37 hx hZ e37 A_P (by decide) (by decide) (v := (.long (10000000000 : Int64))) (congrArg Value.long own_pow10) (hb hby d2_15) (q := 16) rfl ?_
                    refine EKit.lcmp X37 hx  (hb hby d2_16) (q := 17) rfl ?_
                    by_cases h17_38 : q0 < (10000000000 : Int64)
                    · skip
                      refine EKit.ifYes X37 hx (EKit.c_t (tlt (EKit.l_t h17_38)).1) (hb hby d2_17) (by decide) (q := 26) (by decide) ?_
                      refine EKit.iloadN X37 hx rfl (hb hby d2_26) (q := 27) rfl ?_
                      exact EKit.retI X37 hx hret (hb hby d2_27) (⟨by simp [own_len, h17, h17_6, h17_10, h17_14, h17_18, h17_22, h17_26, h17_30, h17_34, h17_38], e37, rfl⟩) (by decide) (by decide)
                    · skip
                      refine EKit.ifNo X37 hx (EKit.c_t (flt (EKit.l_f h17_38)).1) (hb hby d2_17) (q := 20) rfl ?_
                      refine EKit.iinc X37 hx (k0 := 2) (cst := 1) rfl (v := (11 : Int32)) rfl (l' := #[.val (.long q0), .second, .val (.int (11 : Int32))]) rfl (hb hby d2_20) (q := 23) rfl ?_
                      refine EKit.goto X37 hx (hb hby d2_23) (by decide) (q := 2) (by decide) ?_
                      refine EKit.iloadN X37 hx rfl (hb hby d2_2) (q := 3) rfl ?_
                      obtain ⟨T39, X39, e39, st39⟩ := getS X37 hx hZ (host := "") hown (hw _ (List.mem_of_getElem? (i := 9) rfl)) Via.refl e37 S_P (g := (mkF m 3 #[.val (.long q0), .second, .val (.int (11 : Int32))] [(.int (11 : Int32))])) rfl (hb hby d2_3)
                      refine EKit.step st39 ?_
                      show EKit.Ends p l e ({ frames := 0, cells := 0, slots := 0, locals := 0 } : Room) s m #[(.long q0)] below meth c ({ frames := 0, cells := 0, slots := 0, locals := 0 } : Room).cells ({ frames := 0, cells := 0, slots := 0, locals := 0 } : Room).slots (RetQ (some (.int (own_len q0))) h0) T39 (mkF m 6 #[.val (.long q0), .second, .val (.int (11 : Int32))] [(.ref w_P), (.int (11 : Int32))])
                      refine EKit.alen X39 hx hZ e39 A_P (hb hby d2_6) (q := 7) rfl ?_
                      have h7_40 : (11 : Int32) < (19 : Int32) := by decide
                      refine EKit.icmpNo X39 hx ((tlt h7_40).2.1) (hb hby d2_7) (q := 10) rfl ?_
                      refine EKit.lloadN X39 hx rfl (hb hby d2_10) (q := 11) rfl ?_
                      obtain ⟨T41, X41, e41, st41⟩ := getS X39 hx hZ (host := "") hown (hw _ (List.mem_of_getElem? (i := 9) rfl)) Via.refl e39 S_P (g := (mkF m 11 #[.val (.long q0), .second, .val (.int (11 : Int32))] [(.long q0)])) rfl (hb hby d2_11)
                      refine EKit.step st41 ?_
                      show EKit.Ends p l e ({ frames := 0, cells := 0, slots := 0, locals := 0 } : Room) s m #[(.long q0)] below meth c ({ frames := 0, cells := 0, slots := 0, locals := 0 } : Room).cells ({ frames := 0, cells := 0, slots := 0, locals := 0 } : Room).slots (RetQ (some (.int (own_len q0))) h0) T41 (mkF m 14 #[.val (.long q0), .second, .val (.int (11 : Int32))] [(.ref w_P), (.long q0)])
                      refine EKit.iloadN X41 hx rfl (hb hby d2_14) (q := 15) rfl ?_
                      refine EKit.laload X41 hx hZ e41 A_P (by decide) (by decide) (v := (.long (100000000000 : Int64))) (congrArg Value.long own_pow11) (hb hby d2_15) (q := 16) rfl ?_
                      refine EKit.lcmp X41 hx  (hb hby d2_16) (q := 17) rfl ?_
                      by_cases h17_42 : q0 < (100000000000 : Int64)
                      · skip
                        refine EKit.ifYes X41 hx (EKit.c_t (tlt (EKit.l_t h17_42)).1) (hb hby d2_17) (by decide) (q := 26) (by decide) ?_
                        refine EKit.iloadN X41 hx rfl (hb hby d2_26) (q := 27) rfl ?_
                        exact EKit.retI X41 hx hret (hb hby d2_27) (⟨by simp [own_len, h17, h17_6, h17_10, h17_14, h17_18, h17_22, h17_26, h17_30, h17_34, h17_38, h17_42], e41, rfl⟩) (by decide) (by decide)
                      · skip
                        refine EKit.ifNo X41 hx (EKit.c_t (flt (EKit.l_f h17_42)).1) (hb hby d2_17) (q := 20) rfl ?_
                        refine EKit.iinc X41 hx (k0 := 2) (cst := 1) rfl (v := (12 : Int32)) rfl (l' := #[.val (.long q0), .second, .val (.int (12 : Int32))]) rfl (hb hby d2_20) (q := 23) rfl ?_
                        refine EKit.goto X41 hx (hb hby d2_23) (by decide) (q := 2) (by decide) ?_
                        refine EKit.iloadN X41 hx rfl (hb hby d2_2) (q := 3) rfl ?_
                        obtain ⟨T43, X43, e43, st43⟩ := getS X41 hx hZ (host := "") hown (hw _ (List.mem_of_getElem? (i := 9) rfl)) Via.refl e41 S_P (g := (mkF m 3 #[.val (.long q0), .second, .val (.int (12 : Int32))] [(.int (12 : Int32))])) rfl (hb hby d2_3)
                        refine EKit.step st43 ?_
                        show EKit.Ends p l e ({ frames := 0, cells := 0, slots := 0, locals := 0 } : Room) s m #[(.long q0)] below meth c ({ frames := 0, cells := 0, slots := 0, locals := 0 } : Room).cells ({ frames := 0, cells := 0, slots := 0, locals := 0 } : Room).slots (RetQ (some (.int (own_len q0))) h0) T43 (mkF m 6 #[.val (.long q0), .second, .val (.int (12 : Int32))] [(.ref w_P), (.int (12 : Int32))])
                        refine EKit.alen X43 hx hZ e43 A_P (hb hby d2_6) (q := 7) rfl ?_
                        have h7_44 : (12 : Int32) < (19 : Int32) := by decide
                        refine EKit.icmpNo X43 hx ((tlt h7_44).2.1) (hb hby d2_7) (q := 10) rfl ?_
                        refine EKit.lloadN X43 hx rfl (hb hby d2_10) (q := 11) rfl ?_
                        obtain ⟨T45, X45, e45, st45⟩ := getS X43 hx hZ (host := "") hown (hw _ (List.mem_of_getElem? (i := 9) rfl)) Via.refl e43 S_P (g := (mkF m 11 #[.val (.long q0), .second, .val (.int (12 : Int32))] [(.long q0)])) rfl (hb hby d2_11)
                        refine EKit.step st45 ?_
                        show EKit.Ends p l e ({ frames := 0, cells := 0, slots := 0, locals := 0 } : Room) s m #[(.long q0)] below meth c ({ frames := 0, cells := 0, slots := 0, locals := 0 } : Room).cells ({ frames := 0, cells := 0, slots := 0, locals := 0 } : Room).slots (RetQ (some (.int (own_len q0))) h0) T45 (mkF m 14 #[.val (.long q0), .second, .val (.int (12 : Int32))] [(.ref w_P), (.long q0)])
                        refine EKit.iloadN X45 hx rfl (hb hby d2_14) (q := 15) rfl ?_
                        refine EKit.laload X45 hx hZ e45 A_P (by decide) (by decide) (v := (.long (1000000000000 : Int64))) (congrArg Value.long own_pow12) (hb hby d2_15) (q := 16) rfl ?_
                        refine EKit.lcmp X45 hx  (hb hby d2_16) (q := 17) rfl ?_
                        by_cases h17_46 : q0 < (1000000000000 : Int64)
                        · skip
                          refine EKit.ifYes X45 hx (EKit.c_t (tlt (EKit.l_t h17_46)).1) (hb hby d2_17) (by decide) (q := 26) (by decide) ?_
                          refine EKit.iloadN X45 hx rfl (hb hby d2_26) (q := 27) rfl ?_
                          exact EKit.retI X45 hx hret (hb hby d2_27) (⟨by simp [own_len, h17, h17_6, h17_10, h17_14, h17_18, h17_22, h17_26, h17_30, h17_34, h17_38, h17_42, h17_46], e45, rfl⟩) (by decide) (by decide)
                        · skip
                          refine EKit.ifNo X45 hx (EKit.c_t (flt (EKit.l_f h17_46)).1) (hb hby d2_17) (q := 20) rfl ?_
                          refine EKit.iinc X45 hx (k0 := 2) (cst := 1) rfl (v := (13 : Int32)) rfl (l' := #[.val (.long q0), .second, .val (.int (13 : Int32))]) rfl (hb hby d2_20) (q := 23) rfl ?_
                          refine EKit.goto X45 hx (hb hby d2_23) (by decide) (q := 2) (by decide) ?_
                          refine EKit.iloadN X45 hx rfl (hb hby d2_2) (q := 3) rfl ?_
                          obtain ⟨T47, X47, e47, st47⟩ := getS X45 hx hZ (host := "") hown (hw _ (List.mem_of_getElem? (i := 9) rfl)) Via.refl e45 S_P (g := (mkF m 3 #[.val (.long q0), .second, .val (.int (13 : Int32))] [(.int (13 : Int32))])) rfl (hb hby d2_3)
                          refine EKit.step st47 ?_
                          show EKit.Ends p l e ({ frames := 0, cells := 0, slots := 0, locals := 0 } : Room) s m #[(.long q0)] below meth c ({ frames := 0, cells := 0, slots := 0, locals := 0 } : Room).cells ({ frames := 0, cells := 0, slots := 0, locals := 0 } : Room).slots (RetQ (some (.int (own_len q0))) h0) T47 (mkF m 6 #[.val (.long q0), .second, .val (.int (13 : Int32))] [(.ref w_P), (.int (13 : Int32))])
                          refine EKit.alen X47 hx hZ e47 A_P (hb hby d2_6) (q := 7) rfl ?_
                          have h7_48 : (13 : Int32) < (19 : Int32) := by decide
                          refine EKit.icmpNo X47 hx ((tlt h7_48).2.1) (hb hby d2_7) (q := 10) rfl ?_
                          refine EKit.lloadN X47 hx rfl (hb hby d2_10) (q := 11) rfl ?_
                          obtain ⟨T49, X49, e49, st49⟩ := getS X47 hx hZ (host := "") hown (hw _ (List.mem_of_getElem? (i := 9) rfl)) Via.refl e47 S_P (g := (mkF m 11 #[.val (.long q0), .second, .val (.int (13 : Int32))] [(.long q0)])) rfl (hb hby d2_11)
                          refine EKit.step st49 ?_
                          show EKit.Ends p l e ({ frames := 0, cells := 0, slots := 0, locals := 0 } : Room) s m #[(.long q0)] below meth c ({ frames := 0, cells := 0, slots := 0, locals := 0 } : Room).cells ({ frames := 0, cells := 0, slots := 0, locals := 0 } : Room).slots (RetQ (some (.int (own_len q0))) h0) T49 (mkF m 14 #[.val (.long q0), .second, .val (.int (13 : Int32))] [(.ref w_P), (.long q0)])
                          refine EKit.iloadN X49 hx rfl (hb hby d2_14) (q := 15) rfl ?_
                          refine EKit.laload X49 hx hZ e49 A_P (by decide) (by decide) (v := (.long (10000000000000 : Int64))) (congrArg Value.long own_pow13) (hb hby d2_15) (q := 16) rfl ?_
                          refine EKit.lcmp X49 hx  (hb hby d2_16) (q := 17) rfl ?_
                          by_cases h17_50 : q0 < (10000000000000 : Int64)
                          · skip
                            refine EKit.ifYes X49 hx (EKit.c_t (tlt (EKit.l_t h17_50)).1) (hb hby d2_17) (by decide) (q := 26) (by decide) ?_
                            refine EKit.iloadN X49 hx rfl (hb hby d2_26) (q := 27) rfl ?_
                            exact EKit.retI X49 hx hret (hb hby d2_27) (⟨by simp [own_len, h17, h17_6, h17_10, h17_14, h17_18, h17_22, h17_26, h17_30, h17_34, h17_38, h17_42, h17_46, h17_50], e49, rfl⟩) (by decide) (by decide)
                          · skip
                            refine EKit.ifNo X49 hx (EKit.c_t (flt (EKit.l_f h17_50)).1) (hb hby d2_17) (q := 20) rfl ?_
                            refine EKit.iinc X49 hx (k0 := 2) (cst := 1) rfl (v := (14 : Int32)) rfl (l' := #[.val (.long q0), .second, .val (.int (14 : Int32))]) rfl (hb hby d2_20) (q := 23) rfl ?_
                            refine EKit.goto X49 hx (hb hby d2_23) (by decide) (q := 2) (by decide) ?_
                            refine EKit.iloadN X49 hx rfl (hb hby d2_2) (q := 3) rfl ?_
                            obtain ⟨T51, X51, e51, st51⟩ := getS X49 hx hZ (host := "") hown (hw _ (List.mem_of_getElem? (i := 9) rfl)) Via.refl e49 S_P (g := (mkF m 3 #[.val (.long q0), .second, .val (.int (14 : Int32))] [(.int (14 : Int32))])) rfl (hb hby d2_3)
                            refine EKit.step st51 ?_
                            show EKit.Ends p l e ({ frames := 0, cells := 0, slots := 0, locals := 0 } : Room) s m #[(.long q0)] below meth c ({ frames := 0, cells := 0, slots := 0, locals := 0 } : Room).cells ({ frames := 0, cells := 0, slots := 0, locals := 0 } : Room).slots (RetQ (some (.int (own_len q0))) h0) T51 (mkF m 6 #[.val (.long q0), .second, .val (.int (14 : Int32))] [(.ref w_P), (.int (14 : Int32))])
                            refine EKit.alen X51 hx hZ e51 A_P (hb hby d2_6) (q := 7) rfl ?_
                            have h7_52 : (14 : Int32) < (19 : Int32) := by decide
                            refine EKit.icmpNo X51 hx ((tlt h7_52).2.1) (hb hby d2_7) (q := 10) rfl ?_
                            refine EKit.lloadN X51 hx rfl (hb hby d2_10) (q := 11) rfl ?_
                            obtain ⟨T53, X53, e53, st53⟩ := getS X51 hx hZ (host := "") hown (hw _ (List.mem_of_getElem? (i := 9) rfl)) Via.refl e51 S_P (g := (mkF m 11 #[.val (.long q0), .second, .val (.int (14 : Int32))] [(.long q0)])) rfl (hb hby d2_11)
                            refine EKit.step st53 ?_
                            show EKit.Ends p l e ({ frames := 0, cells := 0, slots := 0, locals := 0 } : Room) s m #[(.long q0)] below meth c ({ frames := 0, cells := 0, slots := 0, locals := 0 } : Room).cells ({ frames := 0, cells := 0, slots := 0, locals := 0 } : Room).slots (RetQ (some (.int (own_len q0))) h0) T53 (mkF m 14 #[.val (.long q0), .second, .val (.int (14 : Int32))] [(.ref w_P), (.long q0)])
                            refine EKit.iloadN X53 hx rfl (hb hby d2_14) (q := 15) rfl ?_
                            refine EKit.laload X53 hx hZ e53 A_P (by decide) (by decide) (v := (.long (100000000000000 : Int64))) (congrArg Value.long own_pow14) (hb hby d2_15) (q := 16) rfl ?_
                            refine EKit.lcmp X53 hx  (hb hby d2_16) (q := 17) rfl ?_
                            by_cases h17_54 : q0 < (100000000000000 : Int64)
                            · skip
                              refine EKit.ifYes X53 hx (EKit.c_t (tlt (EKit.l_t h17_54)).1) (hb hby d2_17) (by decide) (q := 26) (by decide) ?_
                              refine EKit.iloadN X53 hx rfl (hb hby d2_26) (q := 27) rfl ?_
                              exact EKit.retI X53 hx hret (hb hby d2_27) (⟨by simp [own_len, h17, h17_6, h17_10, h17_14, h17_18, h17_22, h17_26, h17_30, h17_34, h17_38, h17_42, h17_46, h17_50, h17_54], e53, rfl⟩) (by decide) (by decide)
                            · skip
                              refine EKit.ifNo X53 hx (EKit.c_t (flt (EKit.l_f h17_54)).1) (hb hby d2_17) (q := 20) rfl ?_
                              refine EKit.iinc X53 hx (k0 := 2) (cst := 1) rfl (v := (15 : Int32)) rfl (l' := #[.val (.long q0), .second, .val (.int (15 : Int32))]) rfl (hb hby d2_20) (q := 23) rfl ?_
                              refine EKit.goto X53 hx (hb hby d2_23) (by decide) (q := 2) (by decide) ?_
                              refine EKit.iloadN X53 hx rfl (hb hby d2_2) (q := 3) rfl ?_
                              obtain ⟨T55, X55, e55, st55⟩ := getS X53 hx hZ (host := "") hown (hw _ (List.mem_of_getElem? (i := 9) rfl)) Via.refl e53 S_P (g := (mkF m 3 #[.val (.long q0), .second, .val (.int (15 : Int32))] [(.int (15 : Int32))])) rfl (hb hby d2_3)
                              refine EKit.step st55 ?_
                              show EKit.Ends p l e ({ frames := 0, cells := 0, slots := 0, locals := 0 } : Room) s m #[(.long q0)] below meth c ({ frames := 0, cells := 0, slots := 0, locals := 0 } : Room).cells ({ frames := 0, cells := 0, slots := 0, locals := 0 } : Room).slots (RetQ (some (.int (own_len q0))) h0) T55 (mkF m 6 #[.val (.long q0), .second, .val (.int (15 : Int32))] [(.ref w_P), (.int (15 : Int32))])
                              refine EKit.alen X55 hx hZ e55 A_P (hb hby d2_6) (q := 7) rfl ?_
                              have h7_56 : (15 : Int32) < (19 : Int32) := by decide
                              refine EKit.icmpNo X55 hx ((tlt h7_56).2.1) (hb hby d2_7) (q := 10) rfl ?_
                              refine EKit.lloadN X55 hx rfl (hb hby d2_10) (q := 11) rfl ?_
                              obtain ⟨T57, X57, e57, st57⟩ := getS X55 hx hZ (host := "") hown (hw _ (List.mem_of_getElem? (i := 9) rfl)) Via.refl e55 S_P (g := (mkF m 11 #[.val (.long q0), .second, .val (.int (15 : Int32))] [(.long q0)])) rfl (hb hby d2_11)
                              refine EKit.step st57 ?_
                              show EKit.Ends p l e ({ frames := 0, cells := 0, slots := 0, locals := 0 } : Room) s m #[(.long q0)] below meth c ({ frames := 0, cells := 0, slots := 0, locals := 0 } : Room).cells ({ frames := 0, cells := 0, slots := 0, locals := 0 } : Room).slots (RetQ (some (.int (own_len q0))) h0) T57 (mkF m 14 #[.val (.long q0), .second, .val (.int (15 : Int32))] [(.ref w_P), (.long q0)])
                              refine EKit.iloadN X57 hx rfl (hb hby d2_14) (q := 15) rfl ?_
                              refine EKit.laload X57 hx hZ e57 A_P (by decide) (by decide) (v := (.long (1000000000000000 : Int64))) (congrArg Value.long own_pow15) (hb hby d2_15) (q := 16) rfl ?_
                              refine EKit.lcmp X57 hx  (hb hby d2_16) (q := 17) rfl ?_
                              by_cases h17_58 : q0 < (1000000000000000 : Int64)
                              · skip
                                refine EKit.ifYes X57 hx (EKit.c_t (tlt (EKit.l_t h17_58)).1) (hb hby d2_17) (by decide) (q := 26) (by decide) ?_
                                refine EKit.iloadN X57 hx rfl (hb hby d2_26) (q := 27) rfl ?_
                                exact EKit.retI X57 hx hret (hb hby d2_27) (⟨by simp [own_len, h17, h17_6, h17_10, h17_14, h17_18, h17_22, h17_26, h17_30, h17_34, h17_38, h17_42, h17_46, h17_50, h17_54, h17_58], e57, rfl⟩) (by decide) (by decide)
                              · skip
                                refine EKit.ifNo X57 hx (EKit.c_t (flt (EKit.l_f h17_58)).1) (hb hby d2_17) (q := 20) rfl ?_
                                refine EKit.iinc X57 hx (k0 := 2) (cst := 1) rfl (v := (16 : Int32)) rfl (l' := #[.val (.long q0), .second, .val (.int (16 : Int32))]) rfl (hb hby d2_20) (q := 23) rfl ?_
                                refine EKit.goto X57 hx (hb hby d2_23) (by decide) (q := 2) (by decide) ?_
                                refine EKit.iloadN X57 hx rfl (hb hby d2_2) (q := 3) rfl ?_
                                obtain ⟨T59, X59, e59, st59⟩ := getS X57 hx hZ (host := "") hown (hw _ (List.mem_of_getElem? (i := 9) rfl)) Via.refl e57 S_P (g := (mkF m 3 #[.val (.long q0), .second, .val (.int (16 : Int32))] [(.int (16 : Int32))])) rfl (hb hby d2_3)
                                refine EKit.step st59 ?_
                                show EKit.Ends p l e ({ frames := 0, cells := 0, slots := 0, locals := 0 } : Room) s m #[(.long q0)] below meth c ({ frames := 0, cells := 0, slots := 0, locals := 0 } : Room).cells ({ frames := 0, cells := 0, slots := 0, locals := 0 } : Room).slots (RetQ (some (.int (own_len q0))) h0) T59 (mkF m 6 #[.val (.long q0), .second, .val (.int (16 : Int32))] [(.ref w_P), (.int (16 : Int32))])
                                refine EKit.alen X59 hx hZ e59 A_P (hb hby d2_6) (q := 7) rfl ?_
                                have h7_60 : (16 : Int32) < (19 : Int32) := by decide
                                refine EKit.icmpNo X59 hx ((tlt h7_60).2.1) (hb hby d2_7) (q := 10) rfl ?_
                                refine EKit.lloadN X59 hx rfl (hb hby d2_10) (q := 11) rfl ?_
                                obtain ⟨T61, X61, e61, st61⟩ := getS X59 hx hZ (host := "") hown (hw _ (List.mem_of_getElem? (i := 9) rfl)) Via.refl e59 S_P (g := (mkF m 11 #[.val (.long q0), .second, .val (.int (16 : Int32))] [(.long q0)])) rfl (hb hby d2_11)
                                refine EKit.step st61 ?_
                                show EKit.Ends p l e ({ frames := 0, cells := 0, slots := 0, locals := 0 } : Room) s m #[(.long q0)] below meth c ({ frames := 0, cells := 0, slots := 0, locals := 0 } : Room).cells ({ frames := 0, cells := 0, slots := 0, locals := 0 } : Room).slots (RetQ (some (.int (own_len q0))) h0) T61 (mkF m 14 #[.val (.long q0), .second, .val (.int (16 : Int32))] [(.ref w_P), (.long q0)])
                                refine EKit.iloadN X61 hx rfl (hb hby d2_14) (q := 15) rfl ?_
                                refine EKit.laload X61 hx hZ e61 A_P (by decide) (by decide) (v := (.long (10000000000000000 : Int64))) (congrArg Value.long own_pow16) (hb hby d2_15) (q := 16) rfl ?_
                                refine EKit.lcmp X61 hx  (hb hby d2_16) (q := 17) rfl ?_
                                by_cases h17_62 : q0 < (10000000000000000 : Int64)
                                · skip
                                  refine EKit.ifYes X61 hx (EKit.c_t (tlt (EKit.l_t h17_62)).1) (hb hby d2_17) (by decide) (q := 26) (by decide) ?_
                                  refine EKit.iloadN X61 hx rfl (hb hby d2_26) (q := 27) rfl ?_
                                  exact EKit.retI X61 hx hret (hb hby d2_27) (⟨by simp [own_len, h17, h17_6, h17_10, h17_14, h17_18, h17_22, h17_26, h17_30, h17_34, h17_38, h17_42, h17_46, h17_50, h17_54, h17_58, h17_62], e61, rfl⟩) (by decide) (by decide)
                                · skip
                                  refine EKit.ifNo X61 hx (EKit.c_t (flt (EKit.l_f h17_62)).1) (hb hby d2_17) (q := 20) rfl ?_
                                  refine EKit.iinc X61 hx (k0 := 2) (cst := 1) rfl (v := (17 : Int32)) rfl (l' := #[.val (.long q0), .second, .val (.int (17 : Int32))]) rfl (hb hby d2_20) (q := 23) rfl ?_
                                  refine EKit.goto X61 hx (hb hby d2_23) (by decide) (q := 2) (by decide) ?_
                                  refine EKit.iloadN X61 hx rfl (hb hby d2_2) (q := 3) rfl ?_
                                  obtain ⟨T63, X63, e63, st63⟩ := getS X61 hx hZ (host := "") hown (hw _ (List.mem_of_getElem? (i := 9) rfl)) Via.refl e61 S_P (g := (mkF m 3 #[.val (.long q0), .second, .val (.int (17 : Int32))] [(.int (17 : Int32))])) rfl (hb hby d2_3)
                                  refine EKit.step st63 ?_
                                  show EKit.Ends p l e ({ frames := 0, cells := 0, slots := 0, locals := 0 } : Room) s m #[(.long q0)] below meth c ({ frames := 0, cells := 0, slots := 0, locals := 0 } : Room).cells ({ frames := 0, cells := 0, slots := 0, locals := 0 } : Room).slots (RetQ (some (.int (own_len q0))) h0) T63 (mkF m 6 #[.val (.long q0), .second, .val (.int (17 : Int32))] [(.ref w_P), (.int (17 : Int32))])
                                  refine EKit.alen X63 hx hZ e63 A_P (hb hby d2_6) (q := 7) rfl ?_
                                  have h7_64 : (17 : Int32) < (19 : Int32) := by decide
                                  refine EKit.icmpNo X63 hx ((tlt h7_64).2.1) (hb hby d2_7) (q := 10) rfl ?_
                                  refine EKit.lloadN X63 hx rfl (hb hby d2_10) (q := 11) rfl ?_
                                  obtain ⟨T65, X65, e65, st65⟩ := getS X63 hx hZ (host := "") hown (hw _ (List.mem_of_getElem? (i := 9) rfl)) Via.refl e63 S_P (g := (mkF m 11 #[.val (.long q0), .second, .val (.int (17 : Int32))] [(.long q0)])) rfl (hb hby d2_11)
                                  refine EKit.step st65 ?_
                                  show EKit.Ends p l e ({ frames := 0, cells := 0, slots := 0, locals := 0 } : Room) s m #[(.long q0)] below meth c ({ frames := 0, cells := 0, slots := 0, locals := 0 } : Room).cells ({ frames := 0, cells := 0, slots := 0, locals := 0 } : Room).slots (RetQ (some (.int (own_len q0))) h0) T65 (mkF m 14 #[.val (.long q0), .second, .val (.int (17 : Int32))] [(.ref w_P), (.long q0)])
                                  refine EKit.iloadN X65 hx rfl (hb hby d2_14) (q := 15) rfl ?_
                                  refine EKit.laload X65 hx hZ e65 A_P (by decide) (by decide) (v := (.long (100000000000000000 : Int64))) (congrArg Value.long own_pow17) (hb hby d2_15) (q := 16) rfl ?_
                                  refine EKit.lcmp X65 hx  (hb hby d2_16) (q := 17) rfl ?_
                                  by_cases h17_66 : q0 < (100000000000000000 : Int64)
                                  · skip
                                    refine EKit.ifYes X65 hx (EKit.c_t (tlt (EKit.l_t h17_66)).1) (hb hby d2_17) (by decide) (q := 26) (by decide) ?_
                                    refine EKit.iloadN X65 hx rfl (hb hby d2_26) (q := 27) rfl ?_
                                    exact EKit.retI X65 hx hret (hb hby d2_27) (⟨by simp [own_len, h17, h17_6, h17_10, h17_14, h17_18, h17_22, h17_26, h17_30, h17_34, h17_38, h17_42, h17_46, h17_50, h17_54, h17_58, h17_62, h17_66], e65, rfl⟩) (by decide) (by decide)
                                  · skip
                                    refine EKit.ifNo X65 hx (EKit.c_t (flt (EKit.l_f h17_66)).1) (hb hby d2_17) (q := 20) rfl ?_
                                    refine EKit.iinc X65 hx (k0 := 2) (cst := 1) rfl (v := (18 : Int32)) rfl (l' := #[.val (.long q0), .second, .val (.int (18 : Int32))]) rfl (hb hby d2_20) (q := 23) rfl ?_
                                    refine EKit.goto X65 hx (hb hby d2_23) (by decide) (q := 2) (by decide) ?_
                                    refine EKit.iloadN X65 hx rfl (hb hby d2_2) (q := 3) rfl ?_
                                    obtain ⟨T67, X67, e67, st67⟩ := getS X65 hx hZ (host := "") hown (hw _ (List.mem_of_getElem? (i := 9) rfl)) Via.refl e65 S_P (g := (mkF m 3 #[.val (.long q0), .second, .val (.int (18 : Int32))] [(.int (18 : Int32))])) rfl (hb hby d2_3)
                                    refine EKit.step st67 ?_
                                    show EKit.Ends p l e ({ frames := 0, cells := 0, slots := 0, locals := 0 } : Room) s m #[(.long q0)] below meth c ({ frames := 0, cells := 0, slots := 0, locals := 0 } : Room).cells ({ frames := 0, cells := 0, slots := 0, locals := 0 } : Room).slots (RetQ (some (.int (own_len q0))) h0) T67 (mkF m 6 #[.val (.long q0), .second, .val (.int (18 : Int32))] [(.ref w_P), (.int (18 : Int32))])
                                    refine EKit.alen X67 hx hZ e67 A_P (hb hby d2_6) (q := 7) rfl ?_
                                    have h7_68 : (18 : Int32) < (19 : Int32) := by decide
                                    refine EKit.icmpNo X67 hx ((tlt h7_68).2.1) (hb hby d2_7) (q := 10) rfl ?_
                                    refine EKit.lloadN X67 hx rfl (hb hby d2_10) (q := 11) rfl ?_
                                    obtain ⟨T69, X69, e69, st69⟩ := getS X67 hx hZ (host := "") hown (hw _ (List.mem_of_getElem? (i := 9) rfl)) Via.refl e67 S_P (g := (mkF m 11 #[.val (.long q0), .second, .val (.int (18 : Int32))] [(.long q0)])) rfl (hb hby d2_11)
                                    refine EKit.step st69 ?_
                                    show EKit.Ends p l e ({ frames := 0, cells := 0, slots := 0, locals := 0 } : Room) s m #[(.long q0)] below meth c ({ frames := 0, cells := 0, slots := 0, locals := 0 } : Room).cells ({ frames := 0, cells := 0, slots := 0, locals := 0 } : Room).slots (RetQ (some (.int (own_len q0))) h0) T69 (mkF m 14 #[.val (.long q0), .second, .val (.int (18 : Int32))] [(.ref w_P), (.long q0)])
                                    refine EKit.iloadN X69 hx rfl (hb hby d2_14) (q := 15) rfl ?_
                                    refine EKit.laload X69 hx hZ e69 A_P (by decide) (by decide) (v := (.long (1000000000000000000 : Int64))) (congrArg Value.long own_pow18) (hb hby d2_15) (q := 16) rfl ?_
                                    refine EKit.lcmp X69 hx  (hb hby d2_16) (q := 17) rfl ?_
                                    by_cases h17_70 : q0 < (1000000000000000000 : Int64)
                                    · skip
                                      refine EKit.ifYes X69 hx (EKit.c_t (tlt (EKit.l_t h17_70)).1) (hb hby d2_17) (by decide) (q := 26) (by decide) ?_
                                      refine EKit.iloadN X69 hx rfl (hb hby d2_26) (q := 27) rfl ?_
                                      exact EKit.retI X69 hx hret (hb hby d2_27) (⟨by simp [own_len, h17, h17_6, h17_10, h17_14, h17_18, h17_22, h17_26, h17_30, h17_34, h17_38, h17_42, h17_46, h17_50, h17_54, h17_58, h17_62, h17_66, h17_70], e69, rfl⟩) (by decide) (by decide)
                                    · skip
                                      refine EKit.ifNo X69 hx (EKit.c_t (flt (EKit.l_f h17_70)).1) (hb hby d2_17) (q := 20) rfl ?_
                                      refine EKit.iinc X69 hx (k0 := 2) (cst := 1) rfl (v := (19 : Int32)) rfl (l' := #[.val (.long q0), .second, .val (.int (19 : Int32))]) rfl (hb hby d2_20) (q := 23) rfl ?_
                                      refine EKit.goto X69 hx (hb hby d2_23) (by decide) (q := 2) (by decide) ?_
                                      refine EKit.iloadN X69 hx rfl (hb hby d2_2) (q := 3) rfl ?_
                                      obtain ⟨T71, X71, e71, st71⟩ := getS X69 hx hZ (host := "") hown (hw _ (List.mem_of_getElem? (i := 9) rfl)) Via.refl e69 S_P (g := (mkF m 3 #[.val (.long q0), .second, .val (.int (19 : Int32))] [(.int (19 : Int32))])) rfl (hb hby d2_3)
                                      refine EKit.step st71 ?_
                                      show EKit.Ends p l e ({ frames := 0, cells := 0, slots := 0, locals := 0 } : Room) s m #[(.long q0)] below meth c ({ frames := 0, cells := 0, slots := 0, locals := 0 } : Room).cells ({ frames := 0, cells := 0, slots := 0, locals := 0 } : Room).slots (RetQ (some (.int (own_len q0))) h0) T71 (mkF m 6 #[.val (.long q0), .second, .val (.int (19 : Int32))] [(.ref w_P), (.int (19 : Int32))])
                                      refine EKit.alen X71 hx hZ e71 A_P (hb hby d2_6) (q := 7) rfl ?_
                                      have h7_72 : ¬ ((19 : Int32) < (19 : Int32)) := by decide
                                      refine EKit.icmpYes X71 hx ((flt h7_72).2.1) (hb hby d2_7) (by decide) (q := 26) (by decide) ?_
                                      refine EKit.iloadN X71 hx rfl (hb hby d2_26) (q := 27) rfl ?_
                                      exact EKit.retI X71 hx hret (hb hby d2_27) (⟨by simp [own_len, h17, h17_6, h17_10, h17_14, h17_18, h17_22, h17_26, h17_30, h17_34, h17_38, h17_42, h17_46, h17_50, h17_54, h17_58, h17_62, h17_66, h17_70], e71, rfl⟩) (by decide) (by decide)
theorem own_cases (q : Int64) : (q < 10 ∧ own_len q = 1) ∨ (¬ q < 10 ∧ q < 100 ∧ own_len q = 2) ∨ (¬ q < 100 ∧ q < 1000 ∧ own_len q = 3) ∨ (¬ q < 1000 ∧ q < 10000 ∧ own_len q = 4) ∨ (¬ q < 10000 ∧ q < 100000 ∧ own_len q = 5) ∨ (¬ q < 100000 ∧ q < 1000000 ∧ own_len q = 6) ∨ (¬ q < 1000000 ∧ q < 10000000 ∧ own_len q = 7) ∨ (¬ q < 10000000 ∧ q < 100000000 ∧ own_len q = 8) ∨ (¬ q < 100000000 ∧ q < 1000000000 ∧ own_len q = 9) ∨ (¬ q < 1000000000 ∧ q < 10000000000 ∧ own_len q = 10) ∨ (¬ q < 10000000000 ∧ q < 100000000000 ∧ own_len q = 11) ∨ (¬ q < 100000000000 ∧ q < 1000000000000 ∧ own_len q = 12) ∨ (¬ q < 1000000000000 ∧ q < 10000000000000 ∧ own_len q = 13) ∨ (¬ q < 10000000000000 ∧ q < 100000000000000 ∧ own_len q = 14) ∨ (¬ q < 100000000000000 ∧ q < 1000000000000000 ∧ own_len q = 15) ∨ (¬ q < 1000000000000000 ∧ q < 10000000000000000 ∧ own_len q = 16) ∨ (¬ q < 10000000000000000 ∧ q < 100000000000000000 ∧ own_len q = 17) ∨ (¬ q < 100000000000000000 ∧ q < 1000000000000000000 ∧ own_len q = 18) ∨ (¬ q < 1000000000000000000 ∧ own_len q = 19) := by
  by_cases h1 : q < 10
  · exact Or.inl ⟨h1, by simp [own_len, h1]⟩
  by_cases h2 : q < 100
  · exact Or.inr (Or.inl ⟨h1, h2, by simp [own_len, h1, h2]⟩)
  by_cases h3 : q < 1000
  · exact Or.inr (Or.inr (Or.inl ⟨h2, h3, by simp [own_len, h1, h2, h3]⟩))
  by_cases h4 : q < 10000
  · exact Or.inr (Or.inr (Or.inr (Or.inl ⟨h3, h4, by simp [own_len, h1, h2, h3, h4]⟩)))
  by_cases h5 : q < 100000
  · exact Or.inr (Or.inr (Or.inr (Or.inr (Or.inl ⟨h4, h5, by simp [own_len, h1, h2, h3, h4, h5]⟩))))
  by_cases h6 : q < 1000000
  · exact Or.inr (Or.inr (Or.inr (Or.inr (Or.inr (Or.inl ⟨h5, h6, by simp [own_len, h1, h2, h3, h4, h5, h6]⟩)))))
  by_cases h7 : q < 10000000
  · exact Or.inr (Or.inr (Or.inr (Or.inr (Or.inr (Or.inr (Or.inl ⟨h6, h7, by simp [own_len, h1, h2, h3, h4, h5, h6, h7]⟩))))))
  by_cases h8 : q < 100000000
  · exact Or.inr (Or.inr (Or.inr (Or.inr (Or.inr (Or.inr (Or.inr (Or.inl ⟨h7, h8, by simp [own_len, h1, h2, h3, h4, h5, h6, h7, h8]⟩)))))))
  by_cases h9 : q < 1000000000
  · exact Or.inr (Or.inr (Or.inr (Or.inr (Or.inr (Or.inr (Or.inr (Or.inr (Or.inl ⟨h8, h9, by simp [own_len, h1, h2, h3, h4, h5, h6, h7, h8, h9]⟩))))))))
  by_cases h10 : q < 10000000000
  · exact Or.inr (Or.inr (Or.inr (Or.inr (Or.inr (Or.inr (Or.inr (Or.inr (Or.inr (Or.inl ⟨h9, h10, by simp [own_len, h1, h2, h3, h4, h5, h6, h7, h8, h9, h10]⟩)))))))))
  by_cases h11 : q < 100000000000
  · exact Or.inr (Or.inr (Or.inr (Or.inr (Or.inr (Or.inr (Or.inr (Or.inr (Or.inr (Or.inr (Or.inl ⟨h10, h11, by simp [own_len, h1, h2, h3, h4, h5, h6, h7, h8, h9, h10, h11]⟩))))))))))
  by_cases h12 : q < 1000000000000
  · exact Or.inr (Or.inr (Or.inr (Or.inr (Or.inr (Or.inr (Or.inr (Or.inr (Or.inr (Or.inr (Or.inr (Or.inl ⟨h11, h12, by simp [own_len, h1, h2, h3, h4, h5, h6, h7, h8, h9, h10, h11, h12]⟩)))))))))))
  by_cases h13 : q < 10000000000000
  · exact Or.inr (Or.inr (Or.inr (Or.inr (Or.inr (Or.inr (Or.inr (Or.inr (Or.inr (Or.inr (Or.inr (Or.inr (Or.inl ⟨h12, h13, by simp [own_len, h1, h2, h3, h4, h5, h6, h7, h8, h9, h10, h11, h12, h13]⟩))))))))))))
  by_cases h14 : q < 100000000000000
  · exact Or.inr (Or.inr (Or.inr (Or.inr (Or.inr (Or.inr (Or.inr (Or.inr (Or.inr (Or.inr (Or.inr (Or.inr (Or.inr (Or.inl ⟨h13, h14, by simp [own_len, h1, h2, h3, h4, h5, h6, h7, h8, h9, h10, h11, h12, h13, h14]⟩)))))))))))))
  by_cases h15 : q < 1000000000000000
  · exact Or.inr (Or.inr (Or.inr (Or.inr (Or.inr (Or.inr (Or.inr (Or.inr (Or.inr (Or.inr (Or.inr (Or.inr (Or.inr (Or.inr (Or.inl ⟨h14, h15, by simp [own_len, h1, h2, h3, h4, h5, h6, h7, h8, h9, h10, h11, h12, h13, h14, h15]⟩))))))))))))))
  by_cases h16 : q < 10000000000000000
  · exact Or.inr (Or.inr (Or.inr (Or.inr (Or.inr (Or.inr (Or.inr (Or.inr (Or.inr (Or.inr (Or.inr (Or.inr (Or.inr (Or.inr (Or.inr (Or.inl ⟨h15, h16, by simp [own_len, h1, h2, h3, h4, h5, h6, h7, h8, h9, h10, h11, h12, h13, h14, h15, h16]⟩)))))))))))))))
  by_cases h17 : q < 100000000000000000
  · exact Or.inr (Or.inr (Or.inr (Or.inr (Or.inr (Or.inr (Or.inr (Or.inr (Or.inr (Or.inr (Or.inr (Or.inr (Or.inr (Or.inr (Or.inr (Or.inr (Or.inl ⟨h16, h17, by simp [own_len, h1, h2, h3, h4, h5, h6, h7, h8, h9, h10, h11, h12, h13, h14, h15, h16, h17]⟩))))))))))))))))
  by_cases h18 : q < 1000000000000000000
  · exact Or.inr (Or.inr (Or.inr (Or.inr (Or.inr (Or.inr (Or.inr (Or.inr (Or.inr (Or.inr (Or.inr (Or.inr (Or.inr (Or.inr (Or.inr (Or.inr (Or.inr (Or.inl ⟨h17, h18, by simp [own_len, h1, h2, h3, h4, h5, h6, h7, h8, h9, h10, h11, h12, h13, h14, h15, h16, h17, h18]⟩)))))))))))))))))
  exact Or.inr (Or.inr (Or.inr (Or.inr (Or.inr (Or.inr (Or.inr (Or.inr (Or.inr (Or.inr (Or.inr (Or.inr (Or.inr (Or.inr (Or.inr (Or.inr (Or.inr (Or.inr (⟨h18, by simp [own_len, h1, h2, h3, h4, h5, h6, h7, h8, h9, h10, h11, h12, h13, h14, h15, h16, h17, h18]⟩))))))))))))))))))
theorem own_add32 {x y : Int32} {u v : Int} (hx : x.toInt = u) (hy : y.toInt = v) (h1 : -2147483648 ≤ u + v) (h2 : u + v < 2147483648) : (x + y).toInt = u + v := by
  have e := c_iadd x y; have r := rng32 (x + y); rw [hx, hy] at e
  generalize (x + y).toInt = A at *; clear hx hy; omega
theorem own_sub32 {x y : Int32} {u v : Int} (hx : x.toInt = u) (hy : y.toInt = v) (h1 : -2147483648 ≤ u - v) (h2 : u - v < 2147483648) : (x - y).toInt = u - v := by
  have e := c_isub x y; have r := rng32 (x - y); rw [hx, hy] at e
  generalize (x - y).toInt = A at *; clear hx hy; omega
theorem own_lt32 {x y : Int32} : x < y ↔ x.toInt < y.toInt := Int32.lt_iff_toInt_lt
def own_toI (v : Value) : Int32 := match v with | .int x => x | _ => 0
def own_dig (N k : Nat) : Int32 := Int32.ofNat (48 + N / 10 ^ k % 10)
theorem own_dig_i (N k : Nat) : (own_dig N k).toInt = 48 + ((N / 10 ^ k % 10 : Nat) : Int) := by
  have h : N / 10 ^ k % 10 < 10 := Nat.mod_lt _ (by decide)
  have e : (Nat.toInt32 (48 + N / 10 ^ k % 10)).toInt = ((48 + N / 10 ^ k % 10 : Nat) : Int) := len_toInt (by omega)
  unfold own_dig
  rw [show (Int32.ofNat (48 + N / 10 ^ k % 10)).toInt = ((48 + N / 10 ^ k % 10 : Nat) : Int) from e]
  omega
/-- what put stores -/
theorem own_byte (r : Int64) (h : 0 ≤ r.toInt) (N k : Nat) (hr : r.toInt.toNat = N / 10 ^ k) : nar .byte ((((48 : Int64) + r % 10).toInt32).toInt8.toInt32) = own_dig N k := by
  have e1 : (r % 10).toInt = r.toInt % 10 := by rw [Int64.toInt_mod]; exact (tr r.toInt 10).1 h
  have e2 := c_ladd 48 (r % 10); have q2 := rng64 (48 + r % 10)
  rw [e1, show (48 : Int64).toInt = 48 from rfl] at e2
  have e3 := c_l2i (48 + r % 10); have q3 := rng32 (48 + r % 10).toInt32
  have e4 := c_i2b (48 + r % 10).toInt32
  have e5 := c_i2b ((48 + r % 10).toInt32.toInt8.toInt32)
  have e6 := own_dig_i N k
  apply Int32.toInt_inj.mp
  show ((48 + r % 10).toInt32.toInt8.toInt32.toInt8.toInt32).toInt = _
  rw [e6, ← hr]
  generalize (48 + r % 10).toInt32.toInt8.toInt32.toInt8.toInt32.toInt = A at *
  generalize (48 + r % 10).toInt32.toInt8.toInt32.toInt = B at *
  generalize (48 + r % 10).toInt32.toInt = D at *
  generalize (48 + r % 10).toInt = F at *
  clear e1 hr e6
  have : ((r.toInt.toNat % 10 : Nat) : Int) = r.toInt % 10 := by omega
  rw [this]
  generalize r.toInt = w at *
  have b1 : F = 48 + w % 10 := by omega
  have b2 : D = F := by omega
  have b3 : B = D := by omega
  omega
def own_pinv (fi : Int32 → Int32) (g : Int32 → Value) (n a e : Int32) (q rest : Int64) (i : Int32) : Prop :=
  a.toInt - 1 ≤ i.toInt ∧ i.toInt < e.toInt ∧ 0 ≤ rest.toInt ∧ rest.toInt.toNat = q.toInt.toNat / 10 ^ (e.toInt - 1 - i.toInt).toNat ∧
    ∀ j : Int32, ¬ j < 0 → j < n → g j = .int (if i < j ∧ j < e then own_dig q.toInt.toNat (e.toInt - 1 - j.toInt).toNat else fi j)
theorem own_p0 (fi : Int32 → Int32) (n a e : Int32) (q : Int64) (hq : 0 ≤ q.toInt) (h1 : 0 ≤ a.toInt) (h2 : a.toInt < e.toInt) : own_pinv fi (fun j => .int (fi j)) n a e q q (e - 1) := by
  have r := rng32 e
  have s := own_sub32 (x := e) (y := 1) rfl (show (1 : Int32).toInt = 1 from rfl) (by omega) (by omega)
  refine ⟨by rw [s]; omega, by rw [s]; omega, hq, by rw [s, show (e.toInt - 1 - (e.toInt - 1)).toNat = 0 from by omega]; simp, fun j z1 z2 => ?_⟩
  rw [if_neg]
  rw [own_lt32, own_lt32, s]; omega
theorem own_dec (i : Int32) (h : 0 ≤ i.toInt) : (i + (-1 : Int32)).toInt = i.toInt - 1 := by
  have r := rng32 i
  have := own_add32 (x := i) (y := -1) rfl (show (-1 : Int32).toInt = -1 from rfl) (by omega) (by omega)
  omega
theorem own_pstep (fi : Int32 → Int32) (g : Int32 → Value) (n a e : Int32) (q rest : Int64) (i : Int32) (H : own_pinv fi g n a e q rest i) (ha : 0 ≤ a.toInt) (hi : ¬ i < a) :
    own_pinv fi (fun j => if j = i then .int (nar .byte ((((48 : Int64) + rest % 10).toInt32).toInt8.toInt32)) else g j) n a e q (rest / 10) (i + (-1 : Int32)) := by
  obtain ⟨h1, h2, h3, h4, h5⟩ := H
  rw [own_lt32] at hi
  have s := own_dec i (by omega)
  have hb := own_byte rest h3 q.toInt.toNat (e.toInt - 1 - i.toInt).toNat h4
  have ed := (c_ldiv rest 10 10 rfl (by decide)).1 h3
  refine ⟨by rw [s]; omega, by rw [s]; omega, by rw [ed]; exact Int.ediv_nonneg h3 (by decide), ?_, fun j z1 z2 => ?_⟩
  · rw [ed, s]
    have : (rest.toInt / 10).toNat = rest.toInt.toNat / 10 := by omega
    rw [this, h4, Nat.div_div_eq_div_mul, show (e.toInt - 1 - (i.toInt - 1)).toNat = (e.toInt - 1 - i.toInt).toNat + 1 from by omega, Nat.pow_succ]
  · dsimp only
    by_cases c : j = i
    · subst c
      rw [if_pos rfl, hb, if_pos]
      rw [own_lt32, own_lt32, s]; omega
    · rw [if_neg c, h5 j z1 z2]
      have ne : j.toInt ≠ i.toInt := fun w => c (Int32.toInt_inj.mp w)
      refine congrArg Value.int ?_
      by_cases d : i < j ∧ j < e
      · rw [if_pos d, if_pos]
        rw [own_lt32, own_lt32] at d; rw [own_lt32, own_lt32, s]; omega
      · rw [if_neg d, if_neg]
        rw [own_lt32, own_lt32] at d; rw [own_lt32, own_lt32, s]; omega
def own_putf (fi : Int32 → Int32) (a e : Int32) (q : Int64) (j : Int32) : Int32 := if ¬ j < a ∧ j < e then own_dig q.toInt.toNat (e.toInt - 1 - j.toInt).toNat else fi j
theorem own_pend (fi : Int32 → Int32) (g : Int32 → Value) (n a e : Int32) (q rest : Int64) (i : Int32) (H : own_pinv fi g n a e q rest i) (hi : i < a) : ∀ j : Int32, ¬ j < 0 → j < n → g j = .int (own_putf fi a e q j) := by
  obtain ⟨h1, h2, h3, h4, h5⟩ := H
  intro j z1 z2
  rw [h5 j z1 z2]
  unfold own_putf
  refine congrArg Value.int ?_
  rw [own_lt32] at hi
  by_cases d : i < j ∧ j < e
  · rw [if_pos d, if_pos]
    rw [own_lt32, own_lt32] at d; rw [own_lt32, own_lt32]; omega
  · rw [if_neg d, if_neg]
    rw [own_lt32, own_lt32] at d; rw [own_lt32, own_lt32]; omega
theorem own_pbd (fi : Int32 → Int32) (g : Int32 → Value) (n a e : Int32) (q rest : Int64) (i : Int32) (H : own_pinv fi g n a e q rest i) (ha : 0 ≤ a.toInt) (hn : e.toInt ≤ n.toInt) (hi : ¬ i < a) : (¬ i < 0 ∧ i < n) ∧ ((i + (-1 : Int32)).toInt + 1 - a.toInt).toNat < (i.toInt + 1 - a.toInt).toNat := by
  obtain ⟨h1, h2, -⟩ := H
  rw [own_lt32] at hi
  have s := own_dec i (by omega)
  rw [own_lt32, own_lt32, s, show (0 : Int32).toInt = 0 from rfl]; omega

def own_rinv (N : Nat) (b a : Int32) (i : Int32) (num : Int64) : Prop := a.toInt ≤ i.toInt ∧ i.toInt ≤ b.toInt ∧ 0 ≤ num.toInt ∧ num.toInt.toNat = N / 10 ^ (b.toInt - i.toInt).toNat
theorem own_r0 (N : Nat) (a b : Int32) (hab : a.toInt ≤ b.toInt) (hN : N < 10 ^ (b.toInt - a.toInt).toNat) : own_rinv N b a a 0 :=
  ⟨Int.le_refl _, hab, by decide, by rw [Nat.div_eq_of_lt hN]; rfl⟩
theorem own_dgr (N k : Nat) (x : Int32) (h : x = own_dig N k) : (x - 48).toInt = ((N / 10 ^ k % 10 : Nat) : Int) ∧ ¬ x - 48 < 0 ∧ ¬ 9 < x - 48 := by
  have e := own_dig_i N k
  have hm : N / 10 ^ k % 10 < 10 := Nat.mod_lt _ (by decide)
  have s := own_sub32 (x := x) (y := 48) (h ▸ e) (show (48 : Int32).toInt = 48 from rfl) (by omega) (by omega)
  rw [own_lt32, own_lt32, s, show (0 : Int32).toInt = 0 from rfl, show (9 : Int32).toInt = 9 from rfl]
  omega
theorem own_split (N k : Nat) : N / 10 ^ (k + 1) * 10 + N / 10 ^ k % 10 = N / 10 ^ k := by
  rw [Nat.pow_succ, ← Nat.div_div_eq_div_mul]; omega
theorem own_rstep (N : Nat) (a b i : Int32) (num : Int64) (dg : Int32) (H : own_rinv N b a i num) (hi : i < b) (hd : dg.toInt = ((N / 10 ^ (b.toInt - 1 - i.toInt).toNat % 10 : Nat) : Int)) (hc : num.toInt * 10 + dg.toInt ≤ 9223372036854775807) :
    own_rinv N b a (i + 1) (num * 10 + dg.toInt64) ∧ (b.toInt - (i + 1).toInt).toNat < (b.toInt - i.toInt).toNat := by
  obtain ⟨h1, h2, h3, h4⟩ := H
  rw [own_lt32] at hi
  have rb := rng32 b; have ra := rng32 a
  have s := own_add32 (x := i) (y := 1) rfl (show (1 : Int32).toInt = 1 from rfl) (by omega) (by omega)
  have m1 := c_lmul num 10; have q1 := rng64 (num * 10)
  rw [show (10 : Int64).toInt = 10 from rfl] at m1
  have hdn : 0 ≤ dg.toInt := by rw [hd]; exact Int.natCast_nonneg _
  have m2 : (num * 10).toInt = num.toInt * 10 := by
    generalize (num * 10).toInt = A at *; generalize num.toInt = B at *; clear h4 hd s; omega
  have m3 := c_ladd (num * 10) dg.toInt64; have q3 := rng64 (num * 10 + dg.toInt64)
  rw [m2, c_i2l] at m3
  have m4 : (num * 10 + dg.toInt64).toInt = num.toInt * 10 + dg.toInt := by
    generalize (num * 10 + dg.toInt64).toInt = A at *; generalize num.toInt = B at *; generalize dg.toInt = D at *; clear h4 hd s m2 m1 q1; omega
  refine ⟨⟨by rw [s]; omega, by rw [s]; omega, by rw [m4]; omega, ?_⟩, by rw [s]; omega⟩
  rw [m4, s]
  have k1 : (b.toInt - i.toInt).toNat = (b.toInt - 1 - i.toInt).toNat + 1 := by omega
  have k2 : (b.toInt - (i.toInt + 1)).toNat = (b.toInt - 1 - i.toInt).toNat := by omega
  rw [k1] at h4
  rw [k2, ← own_split N (b.toInt - 1 - i.toInt).toNat, ← h4]
  generalize N / 10 ^ (b.toInt - 1 - i.toInt).toNat % 10 = u at *
  omega
theorem own_c1 (N : Nat) (a b i : Int32) (num : Int64) (dg : Int32) (H : own_rinv N b a i num) (ha : 0 ≤ a.toInt) (hN : N < 10 ^ (b.toInt - a.toInt).toNat) (hl : i - a < 18) (hd : dg.toInt ≤ 9) : num.toInt * 10 + dg.toInt ≤ 9223372036854775807 := by
  obtain ⟨h1, h2, h3, h4⟩ := H
  have ri := rng32 i
  have s := own_sub32 (x := i) (y := a) rfl rfl (by omega) (by omega)
  rw [own_lt32, s, show (18 : Int32).toInt = 18 from rfl] at hl
  have hlt : N / 10 ^ (b.toInt - i.toInt).toNat < 10 ^ (i.toInt - a.toInt).toNat := by
    apply Nat.div_lt_of_lt_mul
    rw [← Nat.pow_add, show (b.toInt - i.toInt).toNat + (i.toInt - a.toInt).toNat = (b.toInt - a.toInt).toNat from by omega]; exact hN
  have hp : 10 ^ (i.toInt - a.toInt).toNat ≤ 10 ^ 17 := Nat.pow_le_pow_right (by decide) (by omega)
  rw [← h4] at hlt
  have : num.toInt.toNat < 10 ^ 17 := Nat.lt_of_lt_of_le hlt hp
  rw [show (10 : Nat) ^ 17 = 100000000000000000 from by decide] at this
  omega
theorem own_c2 (num : Int64) (dg : Int32) (h1 : ¬ 922337203685477580 < num) (h2 : ¬ (922337203685477580 : Int64) = num) (hd : dg.toInt ≤ 9) : num.toInt * 10 + dg.toInt ≤ 9223372036854775807 := by
  rw [Int64.lt_iff_toInt_lt, show (922337203685477580 : Int64).toInt = 922337203685477580 from by decide +kernel] at h1
  have : num.toInt ≠ 922337203685477580 := fun z => h2 (Int64.toInt_inj.mp (z.trans (by decide +kernel)).symm)
  generalize num.toInt = A at *; clear h2; omega
theorem own_c3 (num : Int64) (dg : Int32) (h2 : (922337203685477580 : Int64) = num) (h3 : ¬ 7 < dg.toInt64) : num.toInt * 10 + dg.toInt ≤ 9223372036854775807 := by
  rw [Int64.lt_iff_toInt_lt, c_i2l, show (7 : Int64).toInt = 7 from rfl] at h3
  have : num.toInt = 922337203685477580 := by rw [← h2]; decide +kernel
  rw [this]; omega
def own_res (N : Nat) : Int64 := if N ≤ 9223372036854775807 then Int64.ofInt N else -1
theorem own_big (N : Nat) (a b i : Int32) (num : Int64) (dg : Int32) (H : own_rinv N b a i num) (hi : i < b) (hd : dg.toInt = ((N / 10 ^ (b.toInt - 1 - i.toInt).toNat % 10 : Nat) : Int)) (hc : 9223372036854775807 < num.toInt * 10 + dg.toInt) : (-1 : Int64) = own_res N := by
  obtain ⟨h1, h2, h3, h4⟩ := H
  rw [own_lt32] at hi
  rw [show (b.toInt - i.toInt).toNat = (b.toInt - 1 - i.toInt).toNat + 1 from by omega] at h4
  have e := own_split N (b.toInt - 1 - i.toInt).toNat
  rw [← h4] at e
  have le : N / 10 ^ (b.toInt - 1 - i.toInt).toNat ≤ N := Nat.div_le_self _ _
  unfold own_res
  rw [if_neg]
  generalize N / 10 ^ (b.toInt - 1 - i.toInt).toNat = u at *
  omega
theorem own_o1 (num : Int64) (dg : Int32) (h : 922337203685477580 < num) (hd : 0 ≤ dg.toInt) : 9223372036854775807 < num.toInt * 10 + dg.toInt := by
  rw [Int64.lt_iff_toInt_lt, show (922337203685477580 : Int64).toInt = 922337203685477580 from by decide +kernel] at h
  omega
theorem own_o2 (num : Int64) (dg : Int32) (h2 : (922337203685477580 : Int64) = num) (h3 : 7 < dg.toInt64) : 9223372036854775807 < num.toInt * 10 + dg.toInt := by
  rw [Int64.lt_iff_toInt_lt, c_i2l, show (7 : Int64).toInt = 7 from rfl] at h3
  have : num.toInt = 922337203685477580 := by rw [← h2]; decide +kernel
  rw [this]; omega
theorem own_rend (N : Nat) (a b i : Int32) (num : Int64) (H : own_rinv N b a i num) (hi : ¬ i < b) : num = own_res N := by
  obtain ⟨h1, h2, h3, h4⟩ := H
  rw [own_lt32] at hi
  rw [show (b.toInt - i.toInt).toNat = 0 from by omega, Nat.pow_zero, Nat.div_one] at h4
  have r := rng64 num
  unfold own_res
  rw [if_pos (by omega), ← h4, Int.toNat_of_nonneg h3, Int64.ofInt_toInt]

def own_P (t : Int) (z : Int32) (g : Int32 → Value) : Prop := ∀ j : Int32, ¬ j < 0 → j < 26 → g j = .int (own_toI (g j)) ∧ (1 ≤ j.toInt → j.toInt ≤ t → j.toInt ≤ z.toInt → own_toI (g j) = 48)
theorem own_P0 (z x : Int32) : own_P 0 z (fun i => if i = 0 then .int x else .int 0) := by
  intro j _ _
  dsimp only
  refine ⟨?_, fun h1 h2 => by omega⟩
  by_cases c : j = 0
  · rw [if_pos c]; rfl
  · rw [if_neg c]; rfl
theorem own_Pskip (t : Int) (z : Int32) (g : Int32 → Value) (H : own_P t z g) (h : z.toInt ≤ t) : own_P (t + 1) z g := fun j a b => ⟨(H j a b).1, fun h1 h2 h3 => (H j a b).2 h1 (by omega) h3⟩
theorem own_Pset (t : Int) (z c : Int32) (g : Int32 → Value) (H : own_P t z g) (hc : c.toInt = t + 1) : own_P (t + 1) z (fun i => if i = c then .int (nar .byte 48) else g i) := by
  intro j a b
  dsimp only
  by_cases d : j = c
  · rw [if_pos d]; exact ⟨rfl, fun _ _ _ => by decide⟩
  · rw [if_neg d]
    have ne : j.toInt ≠ c.toInt := fun w => d (Int32.toInt_inj.mp w)
    exact ⟨(H j a b).1, fun h1 h2 h3 => (H j a b).2 h1 (by omega) h3⟩
def own_rel (g : Int32 → Value) (to : Int32) (N : Nat) : Prop := 2 ≤ to.toInt ∧ to.toInt ≤ 24 ∧ N < 10 ^ (to.toInt - 1).toNat ∧ ∀ j : Int32, ¬ j < 0 → j < 26 → g j = .int (own_toI (g j)) ∧ (1 ≤ j.toInt → j.toInt < to.toInt → own_toI (g j) = own_dig N (to.toInt - 1 - j.toInt).toNat)
theorem own_dig0 (N k : Nat) (h : N < 10 ^ k) : own_dig N k = 48 := by
  unfold own_dig; rw [Nat.div_eq_of_lt h]; rfl
theorem own_lenb (q : Int64) (hq : 0 ≤ q.toInt) : 1 ≤ (own_len q).toInt ∧ (own_len q).toInt ≤ 19 ∧ q.toInt.toNat < 10 ^ (own_len q).toInt.toNat := by
  have r := rng64 q
  rcases own_cases q with ⟨h1, e⟩ | ⟨h1, h2, e⟩ | ⟨h1, h2, e⟩ | ⟨h1, h2, e⟩ | ⟨h1, h2, e⟩ | ⟨h1, h2, e⟩ | ⟨h1, h2, e⟩ | ⟨h1, h2, e⟩ | ⟨h1, h2, e⟩ | ⟨h1, h2, e⟩ | ⟨h1, h2, e⟩ | ⟨h1, h2, e⟩ | ⟨h1, h2, e⟩ | ⟨h1, h2, e⟩ | ⟨h1, h2, e⟩ | ⟨h1, h2, e⟩ | ⟨h1, h2, e⟩ | ⟨h1, h2, e⟩ | ⟨h1, e⟩
  · rw [Int64.lt_iff_toInt_lt, show (10 : Int64).toInt = 10 from rfl] at h1; rw [e]; exact ⟨by decide, by decide, by show q.toInt.toNat < 10; omega⟩
  · rw [Int64.lt_iff_toInt_lt, show (100 : Int64).toInt = 100 from by decide +kernel] at h2; rw [e]; exact ⟨by decide, by decide, by show q.toInt.toNat < 10 ^ 2; rw [show (10 : Nat) ^ 2 = 100 from by decide]; clear h1 e; omega⟩
  · rw [Int64.lt_iff_toInt_lt, show (1000 : Int64).toInt = 1000 from by decide +kernel] at h2; rw [e]; exact ⟨by decide, by decide, by show q.toInt.toNat < 10 ^ 3; rw [show (10 : Nat) ^ 3 = 1000 from by decide]; clear h1 e; omega⟩
  · rw [Int64.lt_iff_toInt_lt, show (10000 : Int64).toInt = 10000 from by decide +kernel] at h2; rw [e]; exact ⟨by decide, by decide, by show q.toInt.toNat < 10 ^ 4; rw [show (10 : Nat) ^ 4 = 10000 from by decide]; clear h1 e; omega⟩
  · rw [Int64.lt_iff_toInt_lt, show (100000 : Int64).toInt = 100000 from by decide +kernel] at h2; rw [e]; exact ⟨by decide, by decide, by show q.toInt.toNat < 10 ^ 5; rw [show (10 : Nat) ^ 5 = 100000 from by decide]; clear h1 e; omega⟩
  · rw [Int64.lt_iff_toInt_lt, show (1000000 : Int64).toInt = 1000000 from by decide +kernel] at h2; rw [e]; exact ⟨by decide, by decide, by show q.toInt.toNat < 10 ^ 6; rw [show (10 : Nat) ^ 6 = 1000000 from by decide]; clear h1 e; omega⟩
  · rw [Int64.lt_iff_toInt_lt, show (10000000 : Int64).toInt = 10000000 from by decide +kernel] at h2; rw [e]; exact ⟨by decide, by decide, by show q.toInt.toNat < 10 ^ 7; rw [show (10 : Nat) ^ 7 = 10000000 from by decide]; clear h1 e; omega⟩
  · rw [Int64.lt_iff_toInt_lt, show (100000000 : Int64).toInt = 100000000 from by decide +kernel] at h2; rw [e]; exact ⟨by decide, by decide, by show q.toInt.toNat < 10 ^ 8; rw [show (10 : Nat) ^ 8 = 100000000 from by decide]; clear h1 e; omega⟩
  · rw [Int64.lt_iff_toInt_lt, show (1000000000 : Int64).toInt = 1000000000 from by decide +kernel] at h2; rw [e]; exact ⟨by decide, by decide, by show q.toInt.toNat < 10 ^ 9; rw [show (10 : Nat) ^ 9 = 1000000000 from by decide]; clear h1 e; omega⟩
  · rw [Int64.lt_iff_toInt_lt, show (10000000000 : Int64).toInt = 10000000000 from by decide +kernel] at h2; rw [e]; exact ⟨by decide, by decide, by show q.toInt.toNat < 10 ^ 10; rw [show (10 : Nat) ^ 10 = 10000000000 from by decide]; clear h1 e; omega⟩
  · rw [Int64.lt_iff_toInt_lt, show (100000000000 : Int64).toInt = 100000000000 from by decide +kernel] at h2; rw [e]; exact ⟨by decide, by decide, by show q.toInt.toNat < 10 ^ 11; rw [show (10 : Nat) ^ 11 = 100000000000 from by decide]; clear h1 e; omega⟩
  · rw [Int64.lt_iff_toInt_lt, show (1000000000000 : Int64).toInt = 1000000000000 from by decide +kernel] at h2; rw [e]; exact ⟨by decide, by decide, by show q.toInt.toNat < 10 ^ 12; rw [show (10 : Nat) ^ 12 = 1000000000000 from by decide]; clear h1 e; omega⟩
  · rw [Int64.lt_iff_toInt_lt, show (10000000000000 : Int64).toInt = 10000000000000 from by decide +kernel] at h2; rw [e]; exact ⟨by decide, by decide, by show q.toInt.toNat < 10 ^ 13; rw [show (10 : Nat) ^ 13 = 10000000000000 from by decide]; clear h1 e; omega⟩
  · rw [Int64.lt_iff_toInt_lt, show (100000000000000 : Int64).toInt = 100000000000000 from by decide +kernel] at h2; rw [e]; exact ⟨by decide, by decide, by show q.toInt.toNat < 10 ^ 14; rw [show (10 : Nat) ^ 14 = 100000000000000 from by decide]; clear h1 e; omega⟩
  · rw [Int64.lt_iff_toInt_lt, show (1000000000000000 : Int64).toInt = 1000000000000000 from by decide +kernel] at h2; rw [e]; exact ⟨by decide, by decide, by show q.toInt.toNat < 10 ^ 15; rw [show (10 : Nat) ^ 15 = 1000000000000000 from by decide]; clear h1 e; omega⟩
  · rw [Int64.lt_iff_toInt_lt, show (10000000000000000 : Int64).toInt = 10000000000000000 from by decide +kernel] at h2; rw [e]; exact ⟨by decide, by decide, by show q.toInt.toNat < 10 ^ 16; rw [show (10 : Nat) ^ 16 = 10000000000000000 from by decide]; clear h1 e; omega⟩
  · rw [Int64.lt_iff_toInt_lt, show (100000000000000000 : Int64).toInt = 100000000000000000 from by decide +kernel] at h2; rw [e]; exact ⟨by decide, by decide, by show q.toInt.toNat < 10 ^ 17; rw [show (10 : Nat) ^ 17 = 100000000000000000 from by decide]; clear h1 e; omega⟩
  · rw [Int64.lt_iff_toInt_lt, show (1000000000000000000 : Int64).toInt = 1000000000000000000 from by decide +kernel] at h2; rw [e]; exact ⟨by decide, by decide, by show q.toInt.toNat < 10 ^ 18; rw [show (10 : Nat) ^ 18 = 1000000000000000000 from by decide]; clear h1 e; omega⟩
  · rw [e]; exact ⟨by decide, by decide, by show q.toInt.toNat < 10 ^ 19; rw [show (10 : Nat) ^ 19 = 10000000000000000000 from by decide]; clear h1 e; omega⟩
theorem own_rel0 (g : Int32 → Value) (z : Int32) (q : Int64) (hz : 0 ≤ z.toInt) (hz3 : z.toInt ≤ 3) (hq : 0 ≤ q.toInt) (H : own_P 3 z g) : own_rel (fun j => .int (own_putf (fun j => own_toI (g j)) (1 + z) (1 + z + own_len q) q j)) (1 + z + own_len q) q.toInt.toNat ∧ (1 + z).toInt = 1 + z.toInt ∧ (1 + z + own_len q).toInt = 1 + z.toInt + (own_len q).toInt ∧ (1 + z + own_len q).toInt ≤ 23 := by
  obtain ⟨l1, l2, l3⟩ := own_lenb q hq
  have s1 := own_add32 (x := 1) (y := z) (show (1 : Int32).toInt = 1 from rfl) rfl (by omega) (by omega)
  have s2 := own_add32 (x := 1 + z) (y := own_len q) s1 rfl (by omega) (by omega)
  refine ⟨⟨by rw [s2]; omega, by rw [s2]; omega, Nat.lt_of_lt_of_le l3 (Nat.pow_le_pow_right (by decide) (by rw [s2]; omega)), fun j a b => ⟨rfl, fun h1 h2 => ?_⟩⟩, s1, s2, by omega⟩
  have e0 : own_toI (.int (own_putf (fun j => own_toI (g j)) (1 + z) (1 + z + own_len q) q j)) = own_putf (fun j => own_toI (g j)) (1 + z) (1 + z + own_len q) q j := rfl
  rw [e0]
  unfold own_putf
  rw [s2] at h2
  by_cases c : ¬ j < 1 + z ∧ j < 1 + z + own_len q
  · rw [if_pos c]
  · rw [if_neg c]
    rw [own_lt32, own_lt32, s1, s2] at c
    dsimp only
    rw [(H j a b).2 h1 (by omega) (by omega)]
    exact (own_dig0 _ _ (Nat.lt_of_lt_of_le l3 (Nat.pow_le_pow_right (by decide) (by rw [s2]; omega)))).symm
theorem own_app (g : Int32 → Value) (to d : Int32) (N : Nat) (H : own_rel g to N) (ht : to.toInt ≤ 23) (hd0 : 0 ≤ d.toInt) (hd9 : d.toInt ≤ 9) : own_rel (fun i => if i = to then .int (nar .byte ((48 + d).toInt8.toInt32)) else g i) (to + 1) (10 * N + d.toInt.toNat) := by
  obtain ⟨h1, h2, h3, h4⟩ := H
  have s := own_add32 (x := to) (y := 1) rfl (show (1 : Int32).toInt = 1 from rfl) (by omega) (by omega)
  have pw : 10 ^ (to.toInt + 1 - 1).toNat = 10 ^ (to.toInt - 1).toNat * 10 := by rw [show (to.toInt + 1 - 1).toNat = (to.toInt - 1).toNat + 1 from by omega, Nat.pow_succ]
  refine ⟨by rw [s]; omega, by rw [s]; omega, by rw [s, pw]; omega, fun j a b => ?_⟩
  dsimp only
  by_cases c : j = to
  · rw [if_pos c]
    refine ⟨rfl, fun _ _ => ?_⟩
    subst c
    show nar .byte ((48 + d).toInt8.toInt32) = _
    rw [s, show (j.toInt + 1 - 1 - j.toInt).toNat = 0 from by omega]
    have e := own_dig_i (10 * N + d.toInt.toNat) 0
    rw [Nat.pow_zero, Nat.div_one] at e
    have s2 := own_add32 (x := 48) (y := d) (show (48 : Int32).toInt = 48 from rfl) rfl (by omega) (by omega)
    have e4 := c_i2b (48 + d)
    have e5 := c_i2b ((48 + d).toInt8.toInt32)
    apply Int32.toInt_inj.mp
    rw [e]
    show ((48 + d).toInt8.toInt32.toInt8.toInt32).toInt = _
    generalize (48 + d).toInt8.toInt32.toInt8.toInt32.toInt = A at *
    generalize (48 + d).toInt8.toInt32.toInt = B at *
    rw [s2] at e4
    generalize d.toInt = w at *
    clear e h4 a b h3 pw s
    have : (10 * N + w.toNat) % 10 = w.toNat := by omega
    rw [this]
    omega
  · rw [if_neg c]
    have ne : j.toInt ≠ to.toInt := fun w => c (Int32.toInt_inj.mp w)
    refine ⟨(h4 j a b).1, fun g1 g2 => ?_⟩
    rw [s] at g2
    rw [(h4 j a b).2 g1 (by omega), s]
    unfold own_dig
    rw [show (to.toInt + 1 - 1 - j.toInt).toNat = (to.toInt - 1 - j.toInt).toNat + 1 from by omega, Nat.pow_succ, Nat.mul_comm (10 ^ (to.toInt - 1 - j.toInt).toNat) 10, ← Nat.div_div_eq_div_mul]
    rw [show (10 * N + d.toInt.toNat) / 10 = N from by omega]
theorem own_aft (g : Int32 → Value) (to x : Int32) (N : Nat) (H : own_rel g to N) : own_rel (fun i => if i = to then .int x else g i) to N := by
  obtain ⟨h1, h2, h3, h4⟩ := H
  refine ⟨h1, h2, h3, fun j a b => ?_⟩
  dsimp only
  by_cases c : j = to
  · rw [if_pos c]; exact ⟨rfl, fun _ g2 => by subst c; omega⟩
  · rw [if_neg c]; exact h4 j a b
def own_fin (g : Int32 → Value) (to : Int32) (ex : Int64) : Prop := 2 ≤ to.toInt ∧ to.toInt ≤ 24 ∧ (∀ j : Int32, ¬ j < 0 → j < 26 → g j = .int (own_toI (g j))) ∧
  ((∃ jb : Int32, ¬ jb < 1 ∧ jb < to ∧ (own_toI (g jb) < 48 ∨ 57 < own_toI (g jb)) ∧ ex = -1) ∨ (∃ N : Nat, N < 10 ^ (to.toInt - 1).toNat ∧ (∀ j : Int32, ¬ j < 1 → j < to → own_toI (g j) = own_dig N (to.toInt - 1 - j.toInt).toNat) ∧ ex = own_res N))
theorem own_finG (g : Int32 → Value) (to : Int32) (N : Nat) (ex : Int64) (H : own_rel g to N) (he : ex = own_res N) : own_fin g to ex := by
  obtain ⟨h1, h2, h3, h4⟩ := H
  refine ⟨h1, h2, fun j a b => (h4 j a b).1, Or.inr ⟨N, h3, fun j a b => ?_, he⟩⟩
  rw [own_lt32] at a b
  rw [show (1 : Int32).toInt = 1 from rfl] at a
  exact (h4 j (by rw [own_lt32, show (0 : Int32).toInt = 0 from rfl]; omega) (by rw [own_lt32, show (26 : Int32).toInt = 26 from rfl]; omega)).2 (by omega) b
theorem own_finB (g : Int32 → Value) (to : Int32) (N : Nat) (ib x : Int32) (H : own_rel g to N) (hx : x < 48 ∨ 57 < x) (h1 : ¬ ib < 1) (h2 : ib < to) : own_fin (fun i => if i = ib then .int x else g i) to (-1) := by
  obtain ⟨g1, g2, g3, g4⟩ := H
  refine ⟨g1, g2, fun j a b => ?_, Or.inl ⟨ib, h1, h2, ?_, rfl⟩⟩
  · dsimp only
    by_cases c : j = ib
    · rw [if_pos c]; rfl
    · rw [if_neg c]; exact (g4 j a b).1
  · dsimp only; rw [if_pos rfl]; exact hx
theorem own_e1 (q : Int64) (hq : 0 ≤ q.toInt) : q = own_res q.toInt.toNat := by
  have r := rng64 q
  unfold own_res
  rw [if_pos (by omega), Int.toNat_of_nonneg hq, Int64.ofInt_toInt]
theorem own_mx (d : Int32) (h0 : 0 ≤ d.toInt) (h9 : d.toInt ≤ 9) : (((9223372036854775807 : Int64) - d.toInt64) / 10).toInt = (9223372036854775807 - d.toInt) / 10 := by
  have e := c_lsub 9223372036854775807 d.toInt64; have r := rng64 ((9223372036854775807 : Int64) - d.toInt64)
  rw [c_i2l, show (9223372036854775807 : Int64).toInt = 9223372036854775807 from by decide +kernel] at e
  have e2 : ((9223372036854775807 : Int64) - d.toInt64).toInt = 9223372036854775807 - d.toInt := by
    generalize ((9223372036854775807 : Int64) - d.toInt64).toInt = A at *; omega
  rw [(c_ldiv ((9223372036854775807 : Int64) - d.toInt64) 10 10 rfl (by decide)).1 (by rw [e2]; omega), e2]
theorem own_e2 (q : Int64) (d : Int32) (hq : 0 ≤ q.toInt) (h0 : 0 ≤ d.toInt) (h9 : d.toInt ≤ 9) (h : ¬ ((9223372036854775807 : Int64) - d.toInt64) / 10 < q) : q * 10 + d.toInt64 = own_res (10 * q.toInt.toNat + d.toInt.toNat) := by
  rw [Int64.lt_iff_toInt_lt, own_mx d h0 h9] at h
  have hc : q.toInt * 10 + d.toInt ≤ 9223372036854775807 := by generalize q.toInt = A at *; omega
  have m1 := c_lmul q 10; have q1 := rng64 (q * 10)
  rw [show (10 : Int64).toInt = 10 from rfl] at m1
  have m2 : (q * 10).toInt = q.toInt * 10 := by
    generalize (q * 10).toInt = A at *; generalize q.toInt = B at *; clear h; omega
  have m3 := c_ladd (q * 10) d.toInt64; have q3 := rng64 (q * 10 + d.toInt64)
  rw [m2, c_i2l] at m3
  have m4 : (q * 10 + d.toInt64).toInt = q.toInt * 10 + d.toInt := by
    generalize (q * 10 + d.toInt64).toInt = A at *; generalize q.toInt = B at *; generalize d.toInt = D at *; clear m2 m1 q1 h; omega
  unfold own_res
  rw [if_pos (by omega)]
  apply Int64.toInt_inj.mp
  rw [m4, Int64.toInt_ofInt_of_le (by omega) (by omega)]
  omega
theorem own_e3 (q : Int64) (d : Int32) (hq : 0 ≤ q.toInt) (h0 : 0 ≤ d.toInt) (h9 : d.toInt ≤ 9) (h : ((9223372036854775807 : Int64) - d.toInt64) / 10 < q) : (-1 : Int64) = own_res (10 * q.toInt.toNat + d.toInt.toNat) := by
  rw [Int64.lt_iff_toInt_lt, own_mx d h0 h9] at h
  unfold own_res
  rw [if_neg]
  generalize q.toInt = A at *; generalize d.toInt = D at *
  omega
theorem own_drng (a : Int32) : 0 ≤ (((a.toUInt32 >>> ((5 : Int32) &&& 31).toUInt32).toInt32) % (10 : Int32)).toInt ∧ (((a.toUInt32 >>> ((5 : Int32) &&& 31).toUInt32).toInt32) % (10 : Int32)).toInt ≤ 9 := by
  have e := c_iushr a 5 5 (by decide) (by decide)
  have r := rng32 a
  have h0 : 0 ≤ ((a.toUInt32 >>> ((5 : Int32) &&& 31).toUInt32).toInt32).toInt := by
    rw [e]; exact Int.ediv_nonneg (Int.emod_nonneg _ (by decide)) (by decide)
  rw [(c_irem _ 10 10 rfl).1 h0]
  generalize ((a.toUInt32 >>> ((5 : Int32) &&& 31).toUInt32).toInt32).toInt = w at *
  clear e; omega
theorem own_zrng (a : Int32) : 0 ≤ (a &&& 3).toInt ∧ (a &&& 3).toInt ≤ 3 := by
  have h := c_mask a 3 2 (by decide) (by decide +kernel)
  generalize (a &&& 3).toInt = w at *
  omega
theorem own_qrng (q : Int64) : 0 ≤ (q &&& 9223372036854775807).toInt := by
  have h1 := c_maskL q (9223372036854775807 : Int64) 63 (by decide) (by decide +kernel)
  rw [h1]; exact Int.emod_nonneg _ (by decide)
theorem own_ib (p to : Int32) (h1 : 2 ≤ to.toInt) (h2 : to.toInt ≤ 24) : to - 1 ≠ 0 ∧ ¬ (1 + (p &&& 2147483647) % (to - 1)) < 1 ∧ (1 + (p &&& 2147483647) % (to - 1)) < to ∧ ¬ (1 + (p &&& 2147483647) % (to - 1)) < 0 ∧ (1 + (p &&& 2147483647) % (to - 1)) < 26 := by
  have s := own_sub32 (x := to) (y := 1) rfl (show (1 : Int32).toInt = 1 from rfl) (by omega) (by omega)
  have h := c_mask p 2147483647 31 (by decide) (by decide +kernel)
  have hp : 0 ≤ (p &&& 2147483647).toInt := by rw [h]; exact Int.emod_nonneg _ (by decide)
  have v := (c_iremV (p &&& 2147483647) (to - 1)).1 hp (by rw [s]; omega)
  rw [s] at v
  have t := own_add32 (x := 1) (y := (p &&& 2147483647) % (to - 1)) (show (1 : Int32).toInt = 1 from rfl) rfl (by omega) (by omega)
  refine ⟨fun z => ?_, ?_, ?_, ?_, ?_⟩
  · rw [z] at s; rw [show (0 : Int32).toInt = 0 from rfl] at s; omega
  · rw [own_lt32, t, show (1 : Int32).toInt = 1 from rfl]; omega
  · rw [own_lt32, t]; omega
  · rw [own_lt32, t, show (0 : Int32).toInt = 0 from rfl]; omega
  · rw [own_lt32, t, show (26 : Int32).toInt = 26 from rfl]; omega
theorem own_tb (to : Int32) (h1 : 2 ≤ to.toInt) (h2 : to.toInt ≤ 24) : ¬ to < 0 ∧ to < 26 := by
  rw [own_lt32, own_lt32, show (0 : Int32).toInt = 0 from rfl, show (26 : Int32).toInt = 26 from rfl]; omega
theorem own_neg (k : Int32) : ¬ (1 : Int32) < 1 - (k &&& 2147483647) := by
  have h := c_mask k 2147483647 31 (by decide) (by decide +kernel)
  have r := rng32 (k &&& 2147483647)
  have hp : 0 ≤ (k &&& 2147483647).toInt := by rw [h]; exact Int.emod_nonneg _ (by decide)
  have s := own_sub32 (x := 1) (y := k &&& 2147483647) (show (1 : Int32).toInt = 1 from rfl) rfl (by omega) (by omega)
  rw [own_lt32, s, show (1 : Int32).toInt = 1 from rfl]; omega
theorem own_nb (x : Int32) : nar .byte (x.toInt8.toInt32) = x.toInt8.toInt32 := by
  have e4 := c_i2b x
  have e5 := c_i2b (x.toInt8.toInt32)
  apply Int32.toInt_inj.mp
  show (x.toInt8.toInt32.toInt8.toInt32).toInt = _
  generalize x.toInt8.toInt32.toInt8.toInt32.toInt = A at *
  generalize x.toInt8.toInt32.toInt = B at *
  omega
theorem ef_rm1 (m : MethodId) (x0 : Addr) (x1 : Int32) (x2 : Int64) : entryFrame m #[(.ref x0), (.int x1), (.long x2)] 8 = mkF m 0 #[.val (.ref x0), .val (.int x1), .val (.long x2), .second, .unset, .unset, .unset, .unset] [] := by first | (simp [entryFrame, mkF, argsToLocals, Value.category]; done) | rfl
theorem d1_0 : decode prog_49_method_3_code 0 = .ok (.iload_n 1, 1) := by decide +kernel
theorem d1_1 : decode prog_49_method_3_code 1 = .ok (.lload_n 2, 1) := by decide +kernel
theorem d1_2 : decode prog_49_method_3_code 2 = .ok (.invokestatic 15, 3) := by decide +kernel
theorem pd__J_I : parseMethodDescriptor "(J)I" = some ⟨[.long], some .int⟩ := by decide +kernel
theorem d1_5 : decode prog_49_method_3_code 5 = .ok (.iadd, 1) := by decide +kernel
theorem d1_6 : decode prog_49_method_3_code 6 = .ok (.istore 4, 2) := by decide +kernel
theorem d1_8 : decode prog_49_method_3_code 8 = .ok (.lload_n 2, 1) := by decide +kernel
theorem d1_9 : decode prog_49_method_3_code 9 = .ok (.lstore 5, 2) := by decide +kernel
theorem d1_11 : decode prog_49_method_3_code 11 = .ok (.iload 4, 2) := by decide +kernel
theorem d1_13 : decode prog_49_method_3_code 13 = .ok (.iconst 1, 1) := by decide +kernel
theorem d1_14 : decode prog_49_method_3_code 14 = .ok (.isub, 1) := by decide +kernel
theorem d1_15 : decode prog_49_method_3_code 15 = .ok (.istore 7, 2) := by decide +kernel
theorem d1_17 : decode prog_49_method_3_code 17 = .ok (.iload 7, 2) := by decide +kernel
theorem d1_19 : decode prog_49_method_3_code 19 = .ok (.iload_n 1, 1) := by decide +kernel
theorem d1_20 : decode prog_49_method_3_code 20 = .ok (.if_icmp .lt 33, 3) := by decide +kernel
theorem d1_53 : decode prog_49_method_3_code 53 = .ok (.iload 4, 2) := by decide +kernel
theorem d1_55 : decode prog_49_method_3_code 55 = .ok (.ireturn, 1) := by decide +kernel
theorem d1_23 : decode prog_49_method_3_code 23 = .ok (.aload_n 0, 1) := by decide +kernel
theorem d1_24 : decode prog_49_method_3_code 24 = .ok (.iload 7, 2) := by decide +kernel
theorem d1_26 : decode prog_49_method_3_code 26 = .ok (.ldc2_w 19, 3) := by decide +kernel
theorem d1_29 : decode prog_49_method_3_code 29 = .ok (.lload 5, 2) := by decide +kernel
theorem d1_31 : decode prog_49_method_3_code 31 = .ok (.ldc2_w 21, 3) := by decide +kernel
theorem d1_34 : decode prog_49_method_3_code 34 = .ok (.lrem, 1) := by decide +kernel
theorem d1_35 : decode prog_49_method_3_code 35 = .ok (.ladd, 1) := by decide +kernel
theorem d1_36 : decode prog_49_method_3_code 36 = .ok (.l2i, 1) := by decide +kernel
theorem d1_37 : decode prog_49_method_3_code 37 = .ok (.i2b, 1) := by decide +kernel
theorem d1_38 : decode prog_49_method_3_code 38 = .ok (.bastore, 1) := by decide +kernel
theorem d1_39 : decode prog_49_method_3_code 39 = .ok (.lload 5, 2) := by decide +kernel
theorem d1_41 : decode prog_49_method_3_code 41 = .ok (.ldc2_w 21, 3) := by decide +kernel
theorem d1_44 : decode prog_49_method_3_code 44 = .ok (.ldiv, 1) := by decide +kernel
theorem d1_45 : decode prog_49_method_3_code 45 = .ok (.lstore 5, 2) := by decide +kernel
theorem d1_47 : decode prog_49_method_3_code 47 = .ok (.iinc 7 (-1), 3) := by decide +kernel
theorem d1_50 : decode prog_49_method_3_code 50 = .ok (.goto (-33), 3) := by decide +kernel
set_option maxRecDepth 65536 in
set_option maxHeartbeats 40000000 in
theorem rm1 (l : Launch) (Z : State) (a0 : Array Value) (hw : ∀ d ∈ tables_1, d.before a0 Z = true) (ws : List Jvm.Cond) (r0 : Addr) (p1 : Int32) (q2 : Int64) (h0 : Heap) (kb : ClassId) (nn : Int32) (fi : Int32 → Int32) (A0 : Ary Z h0 r0 kb .byte nn (fun j => .int (fi j))) (n0 : Nat) (gn_r0 : n0 ≤ r0) (w_P : Addr) (kk : ClassId) (S_P : Sta Z h0 "com/example/mirrorgauge/mirrorgauge/message/Decimal" "POWERS" "[J" (.ref w_P)) (A_P : Ary Z h0 w_P kk .long (19 : Int32) (fun j => .long (own_pow j))) (hq : 0 ≤ q2.toInt) (ha : 0 ≤ p1.toInt) (hE : (p1 + (own_len q2)).toInt = p1.toInt + (own_len q2).toInt) (hb0 : (p1 + (own_len q2)).toInt ≤ nn.toInt) :
    Pays l Z (⟨"com/example/mirrorgauge/mirrorgauge/message/Decimal", "put", "([BIJ)I"⟩ : MethodName) prog_49_method_3_code 8 (some .int) ws ({ frames := 1, cells := 0, slots := 0, locals := 15 } : Room) #[(.ref r0), (.int p1), (.long q2)] h0 (fun v h L => v = some (.int (p1 + (own_len q2))) ∧ Fr n0 L ∧ Keep h0 h [r0] ∧ Ary Z h r0 kb .byte nn (fun j => .int (own_putf fi p1 (p1 + (own_len q2)) q2 j))) := by
  refine EKit.pays (plainFor_of_name pn_com_example_mirrorgauge_mirrorgauge_message_Decimal) (fun m => ef_rm1 m r0 p1 q2) ?_
  intro p e s m below meth c s₁ hx hby hml hZ hown hnm hret X0 e0 hs0
  refine EKit.iloadN X0 hx rfl (hb hby d1_0) (q := 1) rfl ?_
  refine EKit.lloadN X0 hx rfl (hb hby d1_1) (q := 2) rfl ?_
  refine EKit.callS X0 hx hZ hown e0 (y := (⟨"com/example/mirrorgauge/mirrorgauge/message/Decimal", "length", "(J)I"⟩ : MethodName)) (hw _ (List.mem_of_getElem? (i := 6) rfl)) (hw _ (List.mem_of_getElem? (i := 7) rfl)) (hw _ (List.mem_of_getElem? (i := 4) rfl)) (hw _ (List.mem_of_getElem? (i := 8) rfl)) (by decide) (argsL := [(.long q2)]) (rm2 l Z a0 hw [] q2 h0 w_P kk S_P A_P) (rest := [(.int p1)]) (by rw [hml]; rfl) pd__J_I rfl (W := 1) (Nat.le_of_eq rfl) (by decide) (by decide) (by decide) (by decide) rfl (hb hby d1_2) (q := 5) rfl ?_
  intro T1 v1 L1 X1 hQ1
  obtain ⟨X1, e1, ev1⟩ := EKit.pureK X1 hQ1
  subst ev1
  show EKit.Ends p l e ({ frames := 1, cells := 0, slots := 0, locals := 15 } : Room) s m #[(.ref r0), (.int p1), (.long q2)] below meth c ({ frames := 1, cells := 0, slots := 0, locals := 15 } : Room).cells ({ frames := 1, cells := 0, slots := 0, locals := 15 } : Room).slots (fun v h L => v = some (.int (p1 + (own_len q2))) ∧ Fr n0 L ∧ Keep h0 h [r0] ∧ Ary Z h r0 kb .byte nn (fun j => .int (own_putf fi p1 (p1 + (own_len q2)) q2 j))) T1 (mkF m 5 #[.val (.ref r0), .val (.int p1), .val (.long q2), .second, .unset, .unset, .unset, .unset] [(.int (own_len q2)), (.int p1)])
  refine EKit.iadd X1 hx  (hb hby d1_5) (q := 6) rfl ?_
  refine EKit.istore X1 hx (l' := #[.val (.ref r0), .val (.int p1), .val (.long q2), .second, .val (.int (p1 + (own_len q2))), .unset, .unset, .unset]) rfl (hb hby d1_6) (q := 8) rfl ?_
  refine EKit.lloadN X1 hx rfl (hb hby d1_8) (q := 9) rfl ?_
  refine EKit.lstore X1 hx (l' := #[.val (.ref r0), .val (.int p1), .val (.long q2), .second, .val (.int (p1 + (own_len q2))), .val (.long q2), .second, .unset]) rfl (hb hby d1_9) (q := 11) rfl ?_
  refine EKit.iload X1 hx rfl (hb hby d1_11) (q := 13) rfl ?_
  refine EKit.iconst X1 hx (v := (1 : Int32)) rfl (hb hby d1_13) (q := 14) rfl ?_
  refine EKit.isub X1 hx  (hb hby d1_14) (q := 15) rfl ?_
  refine EKit.istore X1 hx (l' := #[.val (.ref r0), .val (.int p1), .val (.long q2), .second, .val (.int (p1 + (own_len q2))), .val (.long q2), .second, .val (.int ((p1 + (own_len q2)) - (1 : Int32)))]) rfl (hb hby d1_15) (q := 17) rfl ?_
  have J17_2 : ∀ (nn2 : Nat) (TJ2 : State) (hJ2 : Heap) (LJ2 : List Loc) (XJ2 : Stand p l e ({ frames := 1, cells := 0, slots := 0, locals := 15 } : Room) s m #[(.ref r0), (.int p1), (.long q2)] below meth c TJ2 LJ2 0 0) (eJ2 : TJ2.heap = hJ2) (NJ2 : Fr n0 LJ2) (KJ2 : Keep h0 hJ2 [r0]) (szJ2 : h0.size ≤ hJ2.size) (rest : Int64) (ii : Int32) (g : Int32 → Value) (VJ2_r0 : Ary Z hJ2 r0 kb .byte nn g) (hj17 : own_pinv fi g nn p1 (p1 + (own_len q2)) q2 rest ii) (hn2 : (ii.toInt + 1 - p1.toInt).toNat = nn2), EKit.Ends p l e ({ frames := 1, cells := 0, slots := 0, locals := 15 } : Room) s m #[(.ref r0), (.int p1), (.long q2)] below meth c ({ frames := 1, cells := 0, slots := 0, locals := 15 } : Room).cells ({ frames := 1, cells := 0, slots := 0, locals := 15 } : Room).slots (fun v h L => v = some (.int (p1 + (own_len q2))) ∧ Fr n0 L ∧ Keep h0 h [r0] ∧ Ary Z h r0 kb .byte nn (fun j => .int (own_putf fi p1 (p1 + (own_len q2)) q2 j))) TJ2 (mkF m 17 #[.val (.ref r0), .val (.int p1), .val (.long q2), .second, .val (.int (p1 + (own_len q2))), .val (.long rest), .second, .val (.int ii)] []) := by
    intro nn2
    induction nn2 using Nat.strongRecOn with
    | _ nn2 ih17_2 =>
      intro TJ2 hJ2 LJ2 XJ2 eJ2 NJ2 KJ2 szJ2 rest ii g VJ2_r0 hj17 hn2
      refine EKit.iload XJ2 hx rfl (hb hby d1_17) (q := 19) rfl ?_
      refine EKit.iloadN XJ2 hx rfl (hb hby d1_19) (q := 20) rfl ?_
      by_cases h20 : ii < p1
      · skip
        refine EKit.icmpYes XJ2 hx ((tlt h20).1) (hb hby d1_20) (by decide) (q := 53) (by decide) ?_
        refine EKit.iload XJ2 hx rfl (hb hby d1_53) (q := 55) rfl ?_
        exact EKit.retI XJ2 hx hret (hb hby d1_55) (by rw [eJ2]; exact ⟨rfl, NJ2, KJ2, VJ2_r0.eq (own_pend fi g nn p1 (p1 + (own_len q2)) q2 rest ii hj17 h20)⟩) (by decide) (by decide)
      · skip
        refine EKit.icmpNo XJ2 hx ((flt h20).1) (hb hby d1_20) (q := 23) rfl ?_
        refine EKit.aloadN XJ2 hx rfl rfl (hb hby d1_23) (q := 24) rfl ?_
        refine EKit.iload XJ2 hx rfl (hb hby d1_24) (q := 26) rfl ?_
        refine EKit.ldc2Long XJ2 hx hZ hown (hw _ (List.mem_of_getElem? (i := 11) rfl)) (hb hby d1_26) (q := 29) rfl ?_
        refine EKit.lload XJ2 hx rfl (hb hby d1_29) (q := 31) rfl ?_
        refine EKit.ldc2Long XJ2 hx hZ hown (hw _ (List.mem_of_getElem? (i := 12) rfl)) (hb hby d1_31) (q := 34) rfl ?_
        refine EKit.lrem XJ2 hx (by decide) (hb hby d1_34) (q := 35) rfl ?_
        refine EKit.ladd XJ2 hx  (hb hby d1_35) (q := 36) rfl ?_
        refine EKit.l2i XJ2 hx  (hb hby d1_36) (q := 37) rfl ?_
        refine EKit.i2b XJ2 hx  (hb hby d1_37) (q := 38) rfl ?_
        refine EKit.bastoreB XJ2 hx hZ eJ2 VJ2_r0 (own_pbd fi g nn p1 (p1 + (own_len q2)) q2 rest ii hj17 ha hb0 h20).1.1 (own_pbd fi g nn p1 (p1 + (own_len q2)) q2 rest ii hj17 ha hb0 h20).1.2 (hb hby d1_38) (q := 39) rfl ?_
        intro T3 h3 X3 e3 W3 V3
        have N3 := Fr.snoc X3 NJ2 gn_r0
        have sz3 : h0.size ≤ h3.size := Nat.le_trans szJ2 (Keep.of_wr W3).1
        have K3 : Keep h0 h3 [r0] := (KJ2).wr W3 (Or.inl (List.mem_of_getElem? (i := 0) rfl))
        refine EKit.lload X3 hx rfl (hb hby d1_39) (q := 41) rfl ?_
        refine EKit.ldc2Long X3 hx hZ hown (hw _ (List.mem_of_getElem? (i := 12) rfl)) (hb hby d1_41) (q := 44) rfl ?_
        refine EKit.ldiv X3 hx (by decide) (hb hby d1_44) (q := 45) rfl ?_
        refine EKit.lstore X3 hx (l' := #[.val (.ref r0), .val (.int p1), .val (.long q2), .second, .val (.int (p1 + (own_len q2))), .val (.long (rest / (10 : Int64))), .second, .val (.int ii)]) rfl (hb hby d1_45) (q := 47) rfl ?_
        refine EKit.iinc X3 hx (k0 := 7) (cst := (-1)) rfl (v := (ii + (-1 : Int32))) (congrArg (fun z => ii + z) (by decide : Int32.ofInt (-1) = (-1 : Int32))) (l' := #[.val (.ref r0), .val (.int p1), .val (.long q2), .second, .val (.int (p1 + (own_len q2))), .val (.long (rest / (10 : Int64))), .second, .val (.int (ii + (-1 : Int32)))]) rfl (hb hby d1_47) (q := 50) rfl ?_
        refine EKit.goto X3 hx (hb hby d1_50) (by decide) (q := 17) (by decide) ?_
        exact ih17_2 _ (hn2 ▸ (own_pbd fi g nn p1 (p1 + (own_len q2)) q2 rest ii hj17 ha hb0 h20).2) T3 _ _ X3 e3 N3 K3 sz3 (rest / (10 : Int64)) (ii + (-1 : Int32)) _ V3 (own_pstep fi g nn p1 (p1 + (own_len q2)) q2 rest ii hj17 ha h20) rfl
  exact J17_2 _ T1 _ _ X1 e1 (Fr.nil _) (Keep.refl _ _) (Nat.le_refl _) q2 ((p1 + (own_len q2)) - (1 : Int32)) _ A0 (own_p0 fi nn p1 (p1 + (own_len q2)) q2 hq ha (by have z := own_lenb q2 hq; omega)) rfl
theorem ef_rmR0 (m : MethodId) (x0 : Addr) (x1 : Int32) (x2 : Int32) : entryFrame m #[(.ref x0), (.int x1), (.int x2)] 7 = mkF m 0 #[.val (.ref x0), .val (.int x1), .val (.int x2), .unset, .unset, .unset, .unset] [] := by first | (simp [entryFrame, mkF, argsToLocals, Value.category]; done) | rfl
theorem d3_0 : decode prog_49_method_5_code 0 = .ok (.iload_n 2, 1) := by decide +kernel
theorem d3_1 : decode prog_49_method_5_code 1 = .ok (.iload_n 1, 1) := by decide +kernel
theorem d3_2 : decode prog_49_method_5_code 2 = .ok (.if_icmp .gt 7, 3) := by decide +kernel
theorem d3_5 : decode prog_49_method_5_code 5 = .ok (.ldc2_w 27, 3) := by decide +kernel
theorem d3_8 : decode prog_49_method_5_code 8 = .ok (.lreturn, 1) := by decide +kernel
set_option maxRecDepth 65536 in
set_option maxHeartbeats 40000000 in
theorem rmR0 (l : Launch) (Z : State) (a0 : Array Value) (hw : ∀ d ∈ tables_1, d.before a0 Z = true) (ws : List Jvm.Cond) (r0 : Addr) (p1 : Int32) (p2 : Int32) (h0 : Heap) (he : ¬ p1 < p2) :
    Pays l Z (⟨"com/example/mirrorgauge/mirrorgauge/message/Decimal", "read", "([BII)J"⟩ : MethodName) prog_49_method_5_code 7 (some .long) ws ({ frames := 0, cells := 0, slots := 0, locals := 0 } : Room) #[(.ref r0), (.int p1), (.int p2)] h0 (RetQ (some (.long (-1 : Int64))) h0) := by
  refine EKit.pays (plainFor_of_name pn_com_example_mirrorgauge_mirrorgauge_message_Decimal) (fun m => ef_rmR0 m r0 p1 p2) ?_
  intro p e s m below meth c s₁ hx hby hml hZ hown hnm hret X0 e0 hs0
  refine EKit.iloadN X0 hx rfl (hb hby d3_0) (q := 1) rfl ?_
  refine EKit.iloadN X0 hx rfl (hb hby d3_1) (q := 2) rfl ?_
  have h2 : ¬ (p1 < p2) := he
  refine EKit.icmpNo X0 hx ((flt h2).2.2.1) (hb hby d3_2) (q := 5) rfl ?_
  refine EKit.ldc2Long X0 hx hZ hown (hw _ (List.mem_of_getElem? (i := 18) rfl)) (hb hby d3_5) (q := 8) rfl ?_
  exact EKit.retL X0 hx hret (hb hby d3_8) (⟨rfl, e0, rfl⟩) (by decide) (by decide)
theorem own_in (a b i nn : Int32) (h0 : 0 ≤ a.toInt) (h1 : a.toInt ≤ i.toInt) (h2 : i < b) (h3 : b.toInt ≤ nn.toInt) : ¬ i < 0 ∧ i < nn := by
  rw [own_lt32] at h2; rw [own_lt32, own_lt32, show (0 : Int32).toInt = 0 from rfl]; omega
theorem ef_rmRG (m : MethodId) (x0 : Addr) (x1 : Int32) (x2 : Int32) : entryFrame m #[(.ref x0), (.int x1), (.int x2)] 7 = mkF m 0 #[.val (.ref x0), .val (.int x1), .val (.int x2), .unset, .unset, .unset, .unset] [] := by first | (simp [entryFrame, mkF, argsToLocals, Value.category]; done) | rfl
theorem d3_14 : decode prog_49_method_5_code 14 = .ok (.iload 5, 2) := by decide +kernel
theorem d3_16 : decode prog_49_method_5_code 16 = .ok (.iload_n 2, 1) := by decide +kernel
theorem d3_17 : decode prog_49_method_5_code 17 = .ok (.if_icmp .ge 83, 3) := by decide +kernel
theorem d3_20 : decode prog_49_method_5_code 20 = .ok (.aload_n 0, 1) := by decide +kernel
theorem d3_21 : decode prog_49_method_5_code 21 = .ok (.iload 5, 2) := by decide +kernel
theorem d3_23 : decode prog_49_method_5_code 23 = .ok (.baload, 1) := by decide +kernel
theorem d3_24 : decode prog_49_method_5_code 24 = .ok (.bipush 48, 2) := by decide +kernel
theorem d3_26 : decode prog_49_method_5_code 26 = .ok (.isub, 1) := by decide +kernel
theorem d3_27 : decode prog_49_method_5_code 27 = .ok (.istore 6, 2) := by decide +kernel
theorem d3_29 : decode prog_49_method_5_code 29 = .ok (.iload 6, 2) := by decide +kernel
theorem d3_31 : decode prog_49_method_5_code 31 = .ok (.ifCond .lt 10, 3) := by decide +kernel
theorem d3_34 : decode prog_49_method_5_code 34 = .ok (.iload 6, 2) := by decide +kernel
theorem d3_36 : decode prog_49_method_5_code 36 = .ok (.bipush 9, 2) := by decide +kernel
theorem d3_38 : decode prog_49_method_5_code 38 = .ok (.if_icmp .le 7, 3) := by decide +kernel
theorem d3_45 : decode prog_49_method_5_code 45 = .ok (.iload 5, 2) := by decide +kernel
theorem d3_47 : decode prog_49_method_5_code 47 = .ok (.iload_n 1, 1) := by decide +kernel
theorem d3_48 : decode prog_49_method_5_code 48 = .ok (.isub, 1) := by decide +kernel
theorem d3_49 : decode prog_49_method_5_code 49 = .ok (.bipush 18, 2) := by decide +kernel
theorem d3_51 : decode prog_49_method_5_code 51 = .ok (.if_icmp .lt 33, 3) := by decide +kernel
theorem d3_84 : decode prog_49_method_5_code 84 = .ok (.lload_n 3, 1) := by decide +kernel
theorem d3_85 : decode prog_49_method_5_code 85 = .ok (.ldc2_w 21, 3) := by decide +kernel
theorem d3_88 : decode prog_49_method_5_code 88 = .ok (.lmul, 1) := by decide +kernel
theorem d3_89 : decode prog_49_method_5_code 89 = .ok (.iload 6, 2) := by decide +kernel
theorem d3_91 : decode prog_49_method_5_code 91 = .ok (.i2l, 1) := by decide +kernel
theorem d3_92 : decode prog_49_method_5_code 92 = .ok (.ladd, 1) := by decide +kernel
theorem d3_93 : decode prog_49_method_5_code 93 = .ok (.lstore_n 3, 1) := by decide +kernel
theorem d3_94 : decode prog_49_method_5_code 94 = .ok (.iinc 5 1, 3) := by decide +kernel
theorem d3_97 : decode prog_49_method_5_code 97 = .ok (.goto (-83), 3) := by decide +kernel
theorem d3_54 : decode prog_49_method_5_code 54 = .ok (.lload_n 3, 1) := by decide +kernel
theorem d3_55 : decode prog_49_method_5_code 55 = .ok (.ldc2_w 29, 3) := by decide +kernel
theorem d3_58 : decode prog_49_method_5_code 58 = .ok (.lcmp, 1) := by decide +kernel
theorem d3_59 : decode prog_49_method_5_code 59 = .ok (.ifCond .gt 21, 3) := by decide +kernel
theorem d3_80 : decode prog_49_method_5_code 80 = .ok (.ldc2_w 27, 3) := by decide +kernel
theorem d3_83 : decode prog_49_method_5_code 83 = .ok (.lreturn, 1) := by decide +kernel
theorem d3_62 : decode prog_49_method_5_code 62 = .ok (.ldc2_w 29, 3) := by decide +kernel
theorem d3_65 : decode prog_49_method_5_code 65 = .ok (.lload_n 3, 1) := by decide +kernel
theorem d3_66 : decode prog_49_method_5_code 66 = .ok (.lcmp, 1) := by decide +kernel
theorem d3_67 : decode prog_49_method_5_code 67 = .ok (.ifCond .ne 17, 3) := by decide +kernel
theorem d3_70 : decode prog_49_method_5_code 70 = .ok (.iload 6, 2) := by decide +kernel
theorem d3_72 : decode prog_49_method_5_code 72 = .ok (.i2l, 1) := by decide +kernel
theorem d3_73 : decode prog_49_method_5_code 73 = .ok (.ldc2_w 31, 3) := by decide +kernel
theorem d3_76 : decode prog_49_method_5_code 76 = .ok (.lcmp, 1) := by decide +kernel
theorem d3_77 : decode prog_49_method_5_code 77 = .ok (.ifCond .le 7, 3) := by decide +kernel
theorem d3_100 : decode prog_49_method_5_code 100 = .ok (.lload_n 3, 1) := by decide +kernel
theorem d3_101 : decode prog_49_method_5_code 101 = .ok (.lreturn, 1) := by decide +kernel
theorem d3_9 : decode prog_49_method_5_code 9 = .ok (.lconst 0, 1) := by decide +kernel
theorem d3_10 : decode prog_49_method_5_code 10 = .ok (.lstore_n 3, 1) := by decide +kernel
theorem d3_11 : decode prog_49_method_5_code 11 = .ok (.iload_n 1, 1) := by decide +kernel
theorem d3_12 : decode prog_49_method_5_code 12 = .ok (.istore 5, 2) := by decide +kernel
set_option maxRecDepth 65536 in
set_option maxHeartbeats 40000000 in
theorem rmRG (l : Launch) (Z : State) (a0 : Array Value) (hw : ∀ d ∈ tables_1, d.before a0 Z = true) (ws : List Jvm.Cond) (r0 : Addr) (p1 : Int32) (p2 : Int32) (h0 : Heap) (kb : ClassId) (nn : Int32) (fi : Int32 → Int32) (A0 : Ary Z h0 r0 kb .byte nn (fun j => .int (fi j))) (ha : 0 ≤ p1.toInt) (hlt : p1 < p2) (hb0 : p2.toInt ≤ nn.toInt) (N : Nat) (hN : N < 10 ^ (p2.toInt - p1.toInt).toNat) (Hd : ∀ j : Int32, ¬ j < p1 → j < p2 → fi j = own_dig N (p2.toInt - 1 - j.toInt).toNat) :
    Pays l Z (⟨"com/example/mirrorgauge/mirrorgauge/message/Decimal", "read", "([BII)J"⟩ : MethodName) prog_49_method_5_code 7 (some .long) ws ({ frames := 0, cells := 0, slots := 0, locals := 0 } : Room) #[(.ref r0), (.int p1), (.int p2)] h0 (RetQ (some (.long (own_res N))) h0) := by
  refine EKit.pays (plainFor_of_name pn_com_example_mirrorgauge_mirrorgauge_message_Decimal) (fun m => ef_rmRG m r0 p1 p2) ?_
  intro p e s m below meth c s₁ hx hby hml hZ hown hnm hret X0 e0 hs0
  have J14_1 : ∀ (nn1 : Nat) (TJ1 : State) (XJ1 : Stand p l e ({ frames := 0, cells := 0, slots := 0, locals := 0 } : Room) s m #[(.ref r0), (.int p1), (.int p2)] below meth c TJ1 [] 0 0) (eJ1 : TJ1.heap = h0) (num : Int64) (ii : Int32) (dd : Int32) (hj14 : own_rinv N p2 p1 ii num) (hn1 : (p2.toInt - ii.toInt).toNat = nn1), EKit.Ends p l e ({ frames := 0, cells := 0, slots := 0, locals := 0 } : Room) s m #[(.ref r0), (.int p1), (.int p2)] below meth c ({ frames := 0, cells := 0, slots := 0, locals := 0 } : Room).cells ({ frames := 0, cells := 0, slots := 0, locals := 0 } : Room).slots (RetQ (some (.long (own_res N))) h0) TJ1 (mkF m 14 #[.val (.ref r0), .val (.int p1), .val (.int p2), .val (.long num), .second, .val (.int ii), .val (.int dd)] []) := by
    intro nn1
    induction nn1 using Nat.strongRecOn with
    | _ nn1 ih14_1 =>
      intro TJ1 XJ1 eJ1 num ii dd hj14 hn1
      refine EKit.iload XJ1 hx rfl (hb hby d3_14) (q := 16) rfl ?_
      refine EKit.iloadN XJ1 hx rfl (hb hby d3_16) (q := 17) rfl ?_
      by_cases h17 : ii < p2
      · skip
        refine EKit.icmpNo XJ1 hx ((tlt h17).2.1) (hb hby d3_17) (q := 20) rfl ?_
        refine EKit.aloadN XJ1 hx rfl rfl (hb hby d3_20) (q := 21) rfl ?_
        refine EKit.iload XJ1 hx rfl (hb hby d3_21) (q := 23) rfl ?_
        refine EKit.baloadB XJ1 hx hZ eJ1 A0 (own_in p1 p2 ii nn ha hj14.1 h17 hb0).1 (own_in p1 p2 ii nn ha hj14.1 h17 hb0).2 (v := (.int (fi ii))) rfl (hb hby d3_23) (q := 24) rfl ?_
        refine EKit.bipush XJ1 hx (v := (48 : Int32)) rfl (hb hby d3_24) (q := 26) rfl ?_
        refine EKit.isub XJ1 hx  (hb hby d3_26) (q := 27) rfl ?_
        refine EKit.istore XJ1 hx (l' := #[.val (.ref r0), .val (.int p1), .val (.int p2), .val (.long num), .second, .val (.int ii), .val (.int ((fi ii) - (48 : Int32)))]) rfl (hb hby d3_27) (q := 29) rfl ?_
        refine EKit.iload XJ1 hx rfl (hb hby d3_29) (q := 31) rfl ?_
        have h31 : ¬ (((fi ii) - (48 : Int32)) < (0 : Int32)) := (own_dgr N _ _ (Hd ii (fun z => absurd (own_lt32.mp z) (Int.not_lt.mpr hj14.1)) h17)).2.1
        refine EKit.ifNo XJ1 hx (EKit.c_t (flt h31).1) (hb hby d3_31) (q := 34) rfl ?_
        refine EKit.iload XJ1 hx rfl (hb hby d3_34) (q := 36) rfl ?_
        refine EKit.bipush XJ1 hx (v := (9 : Int32)) rfl (hb hby d3_36) (q := 38) rfl ?_
        have h38 : ¬ ((9 : Int32) < ((fi ii) - (48 : Int32))) := (own_dgr N _ _ (Hd ii (fun z => absurd (own_lt32.mp z) (Int.not_lt.mpr hj14.1)) h17)).2.2
        refine EKit.icmpYes XJ1 hx ((flt h38).2.2.2) (hb hby d3_38) (by decide) (q := 45) (by decide) ?_
        refine EKit.iload XJ1 hx rfl (hb hby d3_45) (q := 47) rfl ?_
        refine EKit.iloadN XJ1 hx rfl (hb hby d3_47) (q := 48) rfl ?_
        refine EKit.isub XJ1 hx  (hb hby d3_48) (q := 49) rfl ?_
        refine EKit.bipush XJ1 hx (v := (18 : Int32)) rfl (hb hby d3_49) (q := 51) rfl ?_
        by_cases h51 : (ii - p1) < (18 : Int32)
        · skip
          refine EKit.icmpYes XJ1 hx ((tlt h51).1) (hb hby d3_51) (by decide) (q := 84) (by decide) ?_
          refine EKit.lloadN XJ1 hx rfl (hb hby d3_84) (q := 85) rfl ?_
          refine EKit.ldc2Long XJ1 hx hZ hown (hw _ (List.mem_of_getElem? (i := 12) rfl)) (hb hby d3_85) (q := 88) rfl ?_
          refine EKit.lmul XJ1 hx  (hb hby d3_88) (q := 89) rfl ?_
          refine EKit.iload XJ1 hx rfl (hb hby d3_89) (q := 91) rfl ?_
          refine EKit.i2l XJ1 hx  (hb hby d3_91) (q := 92) rfl ?_
          refine EKit.ladd XJ1 hx  (hb hby d3_92) (q := 93) rfl ?_
          refine EKit.lstoreN XJ1 hx (l' := #[.val (.ref r0), .val (.int p1), .val (.int p2), .val (.long ((num * (10 : Int64)) + (((fi ii) - (48 : Int32)).toInt64))), .second, .val (.int ii), .val (.int ((fi ii) - (48 : Int32)))]) rfl (hb hby d3_93) (q := 94) rfl ?_
          refine EKit.iinc XJ1 hx (k0 := 5) (cst := 1) rfl (v := (ii + (1 : Int32))) rfl (l' := #[.val (.ref r0), .val (.int p1), .val (.int p2), .val (.long ((num * (10 : Int64)) + (((fi ii) - (48 : Int32)).toInt64))), .second, .val (.int (ii + (1 : Int32))), .val (.int ((fi ii) - (48 : Int32)))]) rfl (hb hby d3_94) (q := 97) rfl ?_
          refine EKit.goto XJ1 hx (hb hby d3_97) (by decide) (q := 14) (by decide) ?_
          exact ih14_1 _ (hn1 ▸ (own_rstep N p1 p2 ii num _ hj14 h17 (own_dgr N _ _ (Hd ii (fun z => absurd (own_lt32.mp z) (Int.not_lt.mpr hj14.1)) h17)).1 (own_c1 N p1 p2 ii num _ hj14 ha hN h51 (by have z := (own_dgr N _ _ (Hd ii (fun z => absurd (own_lt32.mp z) (Int.not_lt.mpr hj14.1)) h17)).1; have w : N / 10 ^ (p2.toInt - 1 - (ii).toInt).toNat % 10 < 10 := Nat.mod_lt _ (by decide); omega))).2) TJ1 XJ1 eJ1 ((num * (10 : Int64)) + (((fi ii) - (48 : Int32)).toInt64)) (ii + (1 : Int32)) ((fi ii) - (48 : Int32)) (own_rstep N p1 p2 ii num _ hj14 h17 (own_dgr N _ _ (Hd ii (fun z => absurd (own_lt32.mp z) (Int.not_lt.mpr hj14.1)) h17)).1 (own_c1 N p1 p2 ii num _ hj14 ha hN h51 (by have z := (own_dgr N _ _ (Hd ii (fun z => absurd (own_lt32.mp z) (Int.not_lt.mpr hj14.1)) h17)).1; have w : N / 10 ^ (p2.toInt - 1 - (ii).toInt).toNat % 10 < 10 := Nat.mod_lt _ (by decide); omega))).1 rfl
        · skip
          refine EKit.icmpNo XJ1 hx ((flt h51).1) (hb hby d3_51) (q := 54) rfl ?_
          refine EKit.lloadN XJ1 hx rfl (hb hby d3_54) (q := 55) rfl ?_
          refine EKit.ldc2Long XJ1 hx hZ hown (hw _ (List.mem_of_getElem? (i := 20) rfl)) (hb hby d3_55) (q := 58) rfl ?_
          refine EKit.lcmp XJ1 hx  (hb hby d3_58) (q := 59) rfl ?_
          by_cases h59 : (922337203685477580 : Int64) < num
          · skip
            refine EKit.ifYes XJ1 hx (EKit.c_t (tlt (EKit.g_t h59)).2.2.1) (hb hby d3_59) (by decide) (q := 80) (by decide) ?_
            refine EKit.ldc2Long XJ1 hx hZ hown (hw _ (List.mem_of_getElem? (i := 18) rfl)) (hb hby d3_80) (q := 83) rfl ?_
            exact EKit.retL XJ1 hx hret (hb hby d3_83) (⟨congrArg (fun z => some (Value.long z)) (own_big N p1 p2 ii num _ hj14 h17 (own_dgr N _ _ (Hd ii (fun z => absurd (own_lt32.mp z) (Int.not_lt.mpr hj14.1)) h17)).1 (own_o1 num _ h59 (by have z := (own_dgr N _ _ (Hd ii (fun z => absurd (own_lt32.mp z) (Int.not_lt.mpr hj14.1)) h17)).1; omega))), eJ1, rfl⟩) (by decide) (by decide)
          · skip
            refine EKit.ifNo XJ1 hx (EKit.c_t (flt (EKit.g_f h59)).2.2.1) (hb hby d3_59) (q := 62) rfl ?_
            refine EKit.ldc2Long XJ1 hx hZ hown (hw _ (List.mem_of_getElem? (i := 20) rfl)) (hb hby d3_62) (q := 65) rfl ?_
            refine EKit.lloadN XJ1 hx rfl (hb hby d3_65) (q := 66) rfl ?_
            refine EKit.lcmp XJ1 hx  (hb hby d3_66) (q := 67) rfl ?_
            by_cases h67 : (922337203685477580 : Int64) = num
            · skip
              refine EKit.ifNo XJ1 hx (EKit.c_t (teq (EKit.e_t h67)).2) (hb hby d3_67) (q := 70) rfl ?_
              refine EKit.iload XJ1 hx rfl (hb hby d3_70) (q := 72) rfl ?_
              refine EKit.i2l XJ1 hx  (hb hby d3_72) (q := 73) rfl ?_
              refine EKit.ldc2Long XJ1 hx hZ hown (hw _ (List.mem_of_getElem? (i := 21) rfl)) (hb hby d3_73) (q := 76) rfl ?_
              refine EKit.lcmp XJ1 hx  (hb hby d3_76) (q := 77) rfl ?_
              by_cases h77 : (7 : Int64) < (((fi ii) - (48 : Int32)).toInt64)
              · skip
                refine EKit.ifNo XJ1 hx (EKit.c_t (tlt (EKit.g_t h77)).2.2.2) (hb hby d3_77) (q := 80) rfl ?_
                refine EKit.ldc2Long XJ1 hx hZ hown (hw _ (List.mem_of_getElem? (i := 18) rfl)) (hb hby d3_80) (q := 83) rfl ?_
                exact EKit.retL XJ1 hx hret (hb hby d3_83) (⟨congrArg (fun z => some (Value.long z)) (own_big N p1 p2 ii num _ hj14 h17 (own_dgr N _ _ (Hd ii (fun z => absurd (own_lt32.mp z) (Int.not_lt.mpr hj14.1)) h17)).1 (own_o2 num _ h67 h77)), eJ1, rfl⟩) (by decide) (by decide)
              · skip
                refine EKit.ifYes XJ1 hx (EKit.c_t (flt (EKit.g_f h77)).2.2.2) (hb hby d3_77) (by decide) (q := 84) (by decide) ?_
                refine EKit.lloadN XJ1 hx rfl (hb hby d3_84) (q := 85) rfl ?_
                refine EKit.ldc2Long XJ1 hx hZ hown (hw _ (List.mem_of_getElem? (i := 12) rfl)) (hb hby d3_85) (q := 88) rfl ?_
                refine EKit.lmul XJ1 hx  (hb hby d3_88) (q := 89) rfl ?_
                refine EKit.iload XJ1 hx rfl (hb hby d3_89) (q := 91) rfl ?_
                refine EKit.i2l XJ1 hx  (hb hby d3_91) (q := 92) rfl ?_
                refine EKit.ladd XJ1 hx  (hb hby d3_92) (q := 93) rfl ?_
                refine EKit.lstoreN XJ1 hx (l' := #[.val (.ref r0), .val (.int p1), .val (.int p2), .val (.long ((num * (10 : Int64)) + (((fi ii) - (48 : Int32)).toInt64))), .second, .val (.int ii), .val (.int ((fi ii) - (48 : Int32)))]) rfl (hb hby d3_93) (q := 94) rfl ?_
                refine EKit.iinc XJ1 hx (k0 := 5) (cst := 1) rfl (v := (ii + (1 : Int32))) rfl (l' := #[.val (.ref r0), .val (.int p1), .val (.int p2), .val (.long ((num * (10 : Int64)) + (((fi ii) - (48 : Int32)).toInt64))), .second, .val (.int (ii + (1 : Int32))), .val (.int ((fi ii) - (48 : Int32)))]) rfl (hb hby d3_94) (q := 97) rfl ?_
                refine EKit.goto XJ1 hx (hb hby d3_97) (by decide) (q := 14) (by decide) ?_
                exact ih14_1 _ (hn1 ▸ (own_rstep N p1 p2 ii num _ hj14 h17 (own_dgr N _ _ (Hd ii (fun z => absurd (own_lt32.mp z) (Int.not_lt.mpr hj14.1)) h17)).1 (own_c3 num _ h67 h77)).2) TJ1 XJ1 eJ1 ((num * (10 : Int64)) + (((fi ii) - (48 : Int32)).toInt64)) (ii + (1 : Int32)) ((fi ii) - (48 : Int32)) (own_rstep N p1 p2 ii num _ hj14 h17 (own_dgr N _ _ (Hd ii (fun z => absurd (own_lt32.mp z) (Int.not_lt.mpr hj14.1)) h17)).1 (own_c3 num _ h67 h77)).1 rfl
            · skip
              refine EKit.ifYes XJ1 hx (EKit.c_t (feq (EKit.e_f h67)).2) (hb hby d3_67) (by decide) (q := 84) (by decide) ?_
              refine EKit.lloadN XJ1 hx rfl (hb hby d3_84) (q := 85) rfl ?_
              refine EKit.ldc2Long XJ1 hx hZ hown (hw _ (List.mem_of_getElem? (i := 12) rfl)) (hb hby d3_85) (q := 88) rfl ?_
              refine EKit.lmul XJ1 hx  (hb hby d3_88) (q := 89) rfl ?_
              refine EKit.iload XJ1 hx rfl (hb hby d3_89) (q := 91) rfl ?_
              refine EKit.i2l XJ1 hx  (hb hby d3_91) (q := 92) rfl ?_
              refine EKit.ladd XJ1 hx  (hb hby d3_92) (q := 93) rfl ?_
              refine EKit.lstoreN XJ1 hx (l' := #[.val (.ref r0), .val (.int p1), .val (.int p2), .val (.long ((num * (10 : Int64)) + (((fi ii) - (48 : Int32)).toInt64))), .second, .val (.int ii), .val (.int ((fi ii) - (48 : Int32)))]) rfl (hb hby d3_93) (q := 94) rfl ?_
              refine EKit.iinc XJ1 hx (k0 := 5) (cst := 1) rfl (v := (ii + (1 : Int32))) rfl (l' := #[.val (.ref r0), .val (.int p1), .val (.int p2), .val (.long ((num * (10 : Int64)) + (((fi ii) - (48 : Int32)).toInt64))), .second, .val (.int (ii + (1 : Int32))), .val (.int ((fi ii) - (48 : Int32)))]) rfl (hb hby d3_94) (q := 97) rfl ?_
              refine EKit.goto XJ1 hx (hb hby d3_97) (by decide) (q := 14) (by decide) ?_
              exact ih14_1 _ (hn1 ▸ (own_rstep N p1 p2 ii num _ hj14 h17 (own_dgr N _ _ (Hd ii (fun z => absurd (own_lt32.mp z) (Int.not_lt.mpr hj14.1)) h17)).1 (own_c2 num _ h59 h67 (by have z := (own_dgr N _ _ (Hd ii (fun z => absurd (own_lt32.mp z) (Int.not_lt.mpr hj14.1)) h17)).1; have w : N / 10 ^ (p2.toInt - 1 - (ii).toInt).toNat % 10 < 10 := Nat.mod_lt _ (by decide); omega))).2) TJ1 XJ1 eJ1 ((num * (10 : Int64)) + (((fi ii) - (48 : Int32)).toInt64)) (ii + (1 : Int32)) ((fi ii) - (48 : Int32)) (own_rstep N p1 p2 ii num _ hj14 h17 (own_dgr N _ _ (Hd ii (fun z => absurd (own_lt32.mp z) (Int.not_lt.mpr hj14.1)) h17)).1 (own_c2 num _ h59 h67 (by have z := (own_dgr N _ _ (Hd ii (fun z => absurd (own_lt32.mp z) (Int.not_lt.mpr hj14.1)) h17)).1; have w : N / 10 ^ (p2.toInt - 1 - (ii).toInt).toNat % 10 < 10 := Nat.mod_lt _ (by decide); omega))).1 rfl
      · skip
        refine EKit.icmpYes XJ1 hx ((flt h17).2.1) (hb hby d3_17) (by decide) (q := 100) (by decide) ?_
        refine EKit.lloadN XJ1 hx rfl (hb hby d3_100) (q := 101) rfl ?_
        exact EKit.retL XJ1 hx hret (hb hby d3_101) (⟨congrArg (fun z => some (Value.long z)) (own_rend N p1 p2 ii num hj14 h17), eJ1, rfl⟩) (by decide) (by decide)
  refine EKit.iloadN X0 hx rfl (hb hby d3_0) (q := 1) rfl ?_
  refine EKit.iloadN X0 hx rfl (hb hby d3_1) (q := 2) rfl ?_
  have h2 : p1 < p2 := hlt
  refine EKit.icmpYes X0 hx ((tlt h2).2.2.1) (hb hby d3_2) (by decide) (q := 9) (by decide) ?_
  refine EKit.lconst X0 hx (v := (0 : Int64)) rfl (hb hby d3_9) (q := 10) rfl ?_
  refine EKit.lstoreN X0 hx (l' := #[.val (.ref r0), .val (.int p1), .val (.int p2), .val (.long (0 : Int64)), .second, .unset, .unset]) rfl (hb hby d3_10) (q := 11) rfl ?_
  refine EKit.iloadN X0 hx rfl (hb hby d3_11) (q := 12) rfl ?_
  refine EKit.istore X0 hx (l' := #[.val (.ref r0), .val (.int p1), .val (.int p2), .val (.long (0 : Int64)), .second, .val (.int p1), .unset]) rfl (hb hby d3_12) (q := 14) rfl ?_
  refine EKit.iload X0 hx rfl (hb hby d3_14) (q := 16) rfl ?_
  refine EKit.iloadN X0 hx rfl (hb hby d3_16) (q := 17) rfl ?_
  have h17 : p1 < p2 := hlt
  refine EKit.icmpNo X0 hx ((tlt h17).2.1) (hb hby d3_17) (q := 20) rfl ?_
  refine EKit.aloadN X0 hx rfl rfl (hb hby d3_20) (q := 21) rfl ?_
  refine EKit.iload X0 hx rfl (hb hby d3_21) (q := 23) rfl ?_
  refine EKit.baloadB X0 hx hZ e0 A0 (own_in p1 p2 p1 nn ha (Int.le_refl _) hlt hb0).1 (own_in p1 p2 p1 nn ha (Int.le_refl _) hlt hb0).2 (v := (.int (fi p1))) rfl (hb hby d3_23) (q := 24) rfl ?_
  refine EKit.bipush X0 hx (v := (48 : Int32)) rfl (hb hby d3_24) (q := 26) rfl ?_
  refine EKit.isub X0 hx  (hb hby d3_26) (q := 27) rfl ?_
  refine EKit.istore X0 hx (l' := #[.val (.ref r0), .val (.int p1), .val (.int p2), .val (.long (0 : Int64)), .second, .val (.int p1), .val (.int ((fi p1) - (48 : Int32)))]) rfl (hb hby d3_27) (q := 29) rfl ?_
  refine EKit.iload X0 hx rfl (hb hby d3_29) (q := 31) rfl ?_
  have h31 : ¬ (((fi p1) - (48 : Int32)) < (0 : Int32)) := (own_dgr N _ _ (Hd p1 (fun z => absurd z (by simp)) hlt)).2.1
  refine EKit.ifNo X0 hx (EKit.c_t (flt h31).1) (hb hby d3_31) (q := 34) rfl ?_
  refine EKit.iload X0 hx rfl (hb hby d3_34) (q := 36) rfl ?_
  refine EKit.bipush X0 hx (v := (9 : Int32)) rfl (hb hby d3_36) (q := 38) rfl ?_
  have h38 : ¬ ((9 : Int32) < ((fi p1) - (48 : Int32))) := (own_dgr N _ _ (Hd p1 (fun z => absurd z (by simp)) hlt)).2.2
  refine EKit.icmpYes X0 hx ((flt h38).2.2.2) (hb hby d3_38) (by decide) (q := 45) (by decide) ?_
  refine EKit.iload X0 hx rfl (hb hby d3_45) (q := 47) rfl ?_
  refine EKit.iloadN X0 hx rfl (hb hby d3_47) (q := 48) rfl ?_
  refine EKit.isub X0 hx  (hb hby d3_48) (q := 49) rfl ?_
  refine EKit.bipush X0 hx (v := (18 : Int32)) rfl (hb hby d3_49) (q := 51) rfl ?_
  by_cases h51 : (p1 - p1) < (18 : Int32)
  · skip
    refine EKit.icmpYes X0 hx ((tlt h51).1) (hb hby d3_51) (by decide) (q := 84) (by decide) ?_
    refine EKit.lloadN X0 hx rfl (hb hby d3_84) (q := 85) rfl ?_
    refine EKit.ldc2Long X0 hx hZ hown (hw _ (List.mem_of_getElem? (i := 12) rfl)) (hb hby d3_85) (q := 88) rfl ?_
    refine EKit.lmul X0 hx  (hb hby d3_88) (q := 89) rfl ?_
    refine EKit.iload X0 hx rfl (hb hby d3_89) (q := 91) rfl ?_
    refine EKit.i2l X0 hx  (hb hby d3_91) (q := 92) rfl ?_
    refine EKit.ladd X0 hx  (hb hby d3_92) (q := 93) rfl ?_
    refine EKit.lstoreN X0 hx (l' := #[.val (.ref r0), .val (.int p1), .val (.int p2), .val (.long (((0 : Int64) * (10 : Int64)) + (((fi p1) - (48 : Int32)).toInt64))), .second, .val (.int p1), .val (.int ((fi p1) - (48 : Int32)))]) rfl (hb hby d3_93) (q := 94) rfl ?_
    refine EKit.iinc X0 hx (k0 := 5) (cst := 1) rfl (v := (p1 + (1 : Int32))) rfl (l' := #[.val (.ref r0), .val (.int p1), .val (.int p2), .val (.long (((0 : Int64) * (10 : Int64)) + (((fi p1) - (48 : Int32)).toInt64))), .second, .val (.int (p1 + (1 : Int32))), .val (.int ((fi p1) - (48 : Int32)))]) rfl (hb hby d3_94) (q := 97) rfl ?_
    refine EKit.goto X0 hx (hb hby d3_97) (by decide) (q := 14) (by decide) ?_
    exact J14_1 _ s₁ X0 e0 (((0 : Int64) * (10 : Int64)) + (((fi p1) - (48 : Int32)).toInt64)) (p1 + (1 : Int32)) ((fi p1) - (48 : Int32)) (own_rstep N p1 p2 p1 (0 : Int64) _ (own_r0 N p1 p2 (Int.le_of_lt (own_lt32.mp hlt)) hN) hlt (own_dgr N _ _ (Hd p1 (fun z => absurd z (by simp)) hlt)).1 (own_c1 N p1 p2 p1 (0 : Int64) _ (own_r0 N p1 p2 (Int.le_of_lt (own_lt32.mp hlt)) hN) ha hN h51 (by have z := (own_dgr N _ _ (Hd p1 (fun z => absurd z (by simp)) hlt)).1; have w : N / 10 ^ (p2.toInt - 1 - (p1).toInt).toNat % 10 < 10 := Nat.mod_lt _ (by decide); omega))).1 rfl
  · skip
    refine EKit.icmpNo X0 hx ((flt h51).1) (hb hby d3_51) (q := 54) rfl ?_
    refine EKit.lloadN X0 hx rfl (hb hby d3_54) (q := 55) rfl ?_
    refine EKit.ldc2Long X0 hx hZ hown (hw _ (List.mem_of_getElem? (i := 20) rfl)) (hb hby d3_55) (q := 58) rfl ?_
    refine EKit.lcmp X0 hx  (hb hby d3_58) (q := 59) rfl ?_
    have h59 : ¬ ((922337203685477580 : Int64) < (0 : Int64)) := by decide
    refine EKit.ifNo X0 hx (EKit.c_t (flt (EKit.g_f h59)).2.2.1) (hb hby d3_59) (q := 62) rfl ?_
    refine EKit.ldc2Long X0 hx hZ hown (hw _ (List.mem_of_getElem? (i := 20) rfl)) (hb hby d3_62) (q := 65) rfl ?_
    refine EKit.lloadN X0 hx rfl (hb hby d3_65) (q := 66) rfl ?_
    refine EKit.lcmp X0 hx  (hb hby d3_66) (q := 67) rfl ?_
    have h67 : ¬ ((922337203685477580 : Int64) = (0 : Int64)) := by decide
    refine EKit.ifYes X0 hx (EKit.c_t (feq (EKit.e_f h67)).2) (hb hby d3_67) (by decide) (q := 84) (by decide) ?_
    refine EKit.lloadN X0 hx rfl (hb hby d3_84) (q := 85) rfl ?_
    refine EKit.ldc2Long X0 hx hZ hown (hw _ (List.mem_of_getElem? (i := 12) rfl)) (hb hby d3_85) (q := 88) rfl ?_
    refine EKit.lmul X0 hx  (hb hby d3_88) (q := 89) rfl ?_
    refine EKit.iload X0 hx rfl (hb hby d3_89) (q := 91) rfl ?_
    refine EKit.i2l X0 hx  (hb hby d3_91) (q := 92) rfl ?_
    refine EKit.ladd X0 hx  (hb hby d3_92) (q := 93) rfl ?_
    refine EKit.lstoreN X0 hx (l' := #[.val (.ref r0), .val (.int p1), .val (.int p2), .val (.long (((0 : Int64) * (10 : Int64)) + (((fi p1) - (48 : Int32)).toInt64))), .second, .val (.int p1), .val (.int ((fi p1) - (48 : Int32)))]) rfl (hb hby d3_93) (q := 94) rfl ?_
    refine EKit.iinc X0 hx (k0 := 5) (cst := 1) rfl (v := (p1 + (1 : Int32))) rfl (l' := #[.val (.ref r0), .val (.int p1), .val (.int p2), .val (.long (((0 : Int64) * (10 : Int64)) + (((fi p1) - (48 : Int32)).toInt64))), .second, .val (.int (p1 + (1 : Int32))), .val (.int ((fi p1) - (48 : Int32)))]) rfl (hb hby d3_94) (q := 97) rfl ?_
    refine EKit.goto X0 hx (hb hby d3_97) (by decide) (q := 14) (by decide) ?_
    exact J14_1 _ s₁ X0 e0 (((0 : Int64) * (10 : Int64)) + (((fi p1) - (48 : Int32)).toInt64)) (p1 + (1 : Int32)) ((fi p1) - (48 : Int32)) (own_rstep N p1 p2 p1 (0 : Int64) _ (own_r0 N p1 p2 (Int.le_of_lt (own_lt32.mp hlt)) hN) hlt (own_dgr N _ _ (Hd p1 (fun z => absurd z (by simp)) hlt)).1 (own_c2 (0 : Int64) _ h59 h67 (by have z := (own_dgr N _ _ (Hd p1 (fun z => absurd z (by simp)) hlt)).1; have w : N / 10 ^ (p2.toInt - 1 - (p1).toInt).toNat % 10 < 10 := Nat.mod_lt _ (by decide); omega))).1 rfl
theorem own_bstep (a b jb i : Int32) (h1 : a.toInt ≤ i.toInt) (h2 : i.toInt ≤ jb.toInt) (hb : jb < b) (x : Int32) (hx : i = jb → x < 48 ∨ 57 < x) (n1 : ¬ x - 48 < 0) (n2 : ¬ 9 < x - 48) : (a.toInt ≤ (i + 1).toInt ∧ (i + 1).toInt ≤ jb.toInt) ∧ (jb.toInt - (i + 1).toInt).toNat < (jb.toInt - i.toInt).toNat := by
  have rb := rng32 b; have ra := rng32 a
  rw [own_lt32] at hb
  have s := own_add32 (x := i) (y := 1) rfl (show (1 : Int32).toInt = 1 from rfl) (by omega) (by omega)
  have e2 := c_isub x 48; have q2 := rng32 (x - 48); have qx := rng32 x
  rw [show (48 : Int32).toInt = 48 from rfl] at e2
  rw [own_lt32, show (0 : Int32).toInt = 0 from rfl] at n1
  rw [own_lt32, show (9 : Int32).toInt = 9 from rfl] at n2
  have s2 : 48 ≤ x.toInt ∧ x.toInt ≤ 57 := by
    generalize (x - 48).toInt = A at *; generalize x.toInt = B at *; clear s hx; omega
  have ne : i.toInt ≠ jb.toInt := fun z => by
    rcases hx (Int32.toInt_inj.mp z) with w | w
    · rw [own_lt32, show (48 : Int32).toInt = 48 from rfl] at w; omega
    · rw [own_lt32, show (57 : Int32).toInt = 57 from rfl] at w; omega
  rw [s]; omega
theorem ef_rmRB (m : MethodId) (x0 : Addr) (x1 : Int32) (x2 : Int32) : entryFrame m #[(.ref x0), (.int x1), (.int x2)] 7 = mkF m 0 #[.val (.ref x0), .val (.int x1), .val (.int x2), .unset, .unset, .unset, .unset] [] := by first | (simp [entryFrame, mkF, argsToLocals, Value.category]; done) | rfl
theorem d3_41 : decode prog_49_method_5_code 41 = .ok (.ldc2_w 27, 3) := by decide +kernel
theorem d3_44 : decode prog_49_method_5_code 44 = .ok (.lreturn, 1) := by decide +kernel
set_option maxRecDepth 65536 in
set_option maxHeartbeats 40000000 in
theorem rmRB (l : Launch) (Z : State) (a0 : Array Value) (hw : ∀ d ∈ tables_1, d.before a0 Z = true) (ws : List Jvm.Cond) (r0 : Addr) (p1 : Int32) (p2 : Int32) (h0 : Heap) (kb : ClassId) (nn : Int32) (fi : Int32 → Int32) (A0 : Ary Z h0 r0 kb .byte nn (fun j => .int (fi j))) (ha : 0 ≤ p1.toInt) (hlt : p1 < p2) (hb0 : p2.toInt ≤ nn.toInt) (jb : Int32) (h1b : p1.toInt ≤ jb.toInt) (h2b : jb < p2) (h3b : fi jb < 48 ∨ 57 < fi jb) :
    Pays l Z (⟨"com/example/mirrorgauge/mirrorgauge/message/Decimal", "read", "([BII)J"⟩ : MethodName) prog_49_method_5_code 7 (some .long) ws ({ frames := 0, cells := 0, slots := 0, locals := 0 } : Room) #[(.ref r0), (.int p1), (.int p2)] h0 (RetQ (some (.long (-1 : Int64))) h0) := by
  refine EKit.pays (plainFor_of_name pn_com_example_mirrorgauge_mirrorgauge_message_Decimal) (fun m => ef_rmRB m r0 p1 p2) ?_
  intro p e s m below meth c s₁ hx hby hml hZ hown hnm hret X0 e0 hs0
  have J14_1 : ∀ (nn1 : Nat) (TJ1 : State) (XJ1 : Stand p l e ({ frames := 0, cells := 0, slots := 0, locals := 0 } : Room) s m #[(.ref r0), (.int p1), (.int p2)] below meth c TJ1 [] 0 0) (eJ1 : TJ1.heap = h0) (num : Int64) (ii : Int32) (dd : Int32) (hj14 : p1.toInt ≤ ii.toInt ∧ ii.toInt ≤ jb.toInt) (hn1 : (jb.toInt - ii.toInt).toNat = nn1), EKit.Ends p l e ({ frames := 0, cells := 0, slots := 0, locals := 0 } : Room) s m #[(.ref r0), (.int p1), (.int p2)] below meth c ({ frames := 0, cells := 0, slots := 0, locals := 0 } : Room).cells ({ frames := 0, cells := 0, slots := 0, locals := 0 } : Room).slots (RetQ (some (.long (-1 : Int64))) h0) TJ1 (mkF m 14 #[.val (.ref r0), .val (.int p1), .val (.int p2), .val (.long num), .second, .val (.int ii), .val (.int dd)] []) := by
    intro nn1
    induction nn1 using Nat.strongRecOn with
    | _ nn1 ih14_1 =>
      intro TJ1 XJ1 eJ1 num ii dd hj14 hn1
      refine EKit.iload XJ1 hx rfl (hb hby d3_14) (q := 16) rfl ?_
      refine EKit.iloadN XJ1 hx rfl (hb hby d3_16) (q := 17) rfl ?_
      have h17 : ii < p2 := (own_lt32.mpr (Int.lt_of_le_of_lt hj14.2 (own_lt32.mp h2b)))
      refine EKit.icmpNo XJ1 hx ((tlt h17).2.1) (hb hby d3_17) (q := 20) rfl ?_
      refine EKit.aloadN XJ1 hx rfl rfl (hb hby d3_20) (q := 21) rfl ?_
      refine EKit.iload XJ1 hx rfl (hb hby d3_21) (q := 23) rfl ?_
      refine EKit.baloadB XJ1 hx hZ eJ1 A0 (own_in p1 p2 ii nn ha hj14.1 (own_lt32.mpr (Int.lt_of_le_of_lt hj14.2 (own_lt32.mp h2b))) hb0).1 (own_in p1 p2 ii nn ha hj14.1 (own_lt32.mpr (Int.lt_of_le_of_lt hj14.2 (own_lt32.mp h2b))) hb0).2 (v := (.int (fi ii))) rfl (hb hby d3_23) (q := 24) rfl ?_
      refine EKit.bipush XJ1 hx (v := (48 : Int32)) rfl (hb hby d3_24) (q := 26) rfl ?_
      refine EKit.isub XJ1 hx  (hb hby d3_26) (q := 27) rfl ?_
      refine EKit.istore XJ1 hx (l' := #[.val (.ref r0), .val (.int p1), .val (.int p2), .val (.long num), .second, .val (.int ii), .val (.int ((fi ii) - (48 : Int32)))]) rfl (hb hby d3_27) (q := 29) rfl ?_
      refine EKit.iload XJ1 hx rfl (hb hby d3_29) (q := 31) rfl ?_
      by_cases h31 : ((fi ii) - (48 : Int32)) < (0 : Int32)
      · skip
        refine EKit.ifYes XJ1 hx (EKit.c_t (tlt h31).1) (hb hby d3_31) (by decide) (q := 41) (by decide) ?_
        refine EKit.ldc2Long XJ1 hx hZ hown (hw _ (List.mem_of_getElem? (i := 18) rfl)) (hb hby d3_41) (q := 44) rfl ?_
        exact EKit.retL XJ1 hx hret (hb hby d3_44) (⟨rfl, eJ1, rfl⟩) (by decide) (by decide)
      · skip
        refine EKit.ifNo XJ1 hx (EKit.c_t (flt h31).1) (hb hby d3_31) (q := 34) rfl ?_
        refine EKit.iload XJ1 hx rfl (hb hby d3_34) (q := 36) rfl ?_
        refine EKit.bipush XJ1 hx (v := (9 : Int32)) rfl (hb hby d3_36) (q := 38) rfl ?_
        by_cases h38 : (9 : Int32) < ((fi ii) - (48 : Int32))
        · skip
          refine EKit.icmpNo XJ1 hx ((tlt h38).2.2.2) (hb hby d3_38) (q := 41) rfl ?_
          refine EKit.ldc2Long XJ1 hx hZ hown (hw _ (List.mem_of_getElem? (i := 18) rfl)) (hb hby d3_41) (q := 44) rfl ?_
          exact EKit.retL XJ1 hx hret (hb hby d3_44) (⟨rfl, eJ1, rfl⟩) (by decide) (by decide)
        · skip
          refine EKit.icmpYes XJ1 hx ((flt h38).2.2.2) (hb hby d3_38) (by decide) (q := 45) (by decide) ?_
          refine EKit.iload XJ1 hx rfl (hb hby d3_45) (q := 47) rfl ?_
          refine EKit.iloadN XJ1 hx rfl (hb hby d3_47) (q := 48) rfl ?_
          refine EKit.isub XJ1 hx  (hb hby d3_48) (q := 49) rfl ?_
          refine EKit.bipush XJ1 hx (v := (18 : Int32)) rfl (hb hby d3_49) (q := 51) rfl ?_
          by_cases h51 : (ii - p1) < (18 : Int32)
          · skip
            refine EKit.icmpYes XJ1 hx ((tlt h51).1) (hb hby d3_51) (by decide) (q := 84) (by decide) ?_
            refine EKit.lloadN XJ1 hx rfl (hb hby d3_84) (q := 85) rfl ?_
            refine EKit.ldc2Long XJ1 hx hZ hown (hw _ (List.mem_of_getElem? (i := 12) rfl)) (hb hby d3_85) (q := 88) rfl ?_
            refine EKit.lmul XJ1 hx  (hb hby d3_88) (q := 89) rfl ?_
            refine EKit.iload XJ1 hx rfl (hb hby d3_89) (q := 91) rfl ?_
            refine EKit.i2l XJ1 hx  (hb hby d3_91) (q := 92) rfl ?_
            refine EKit.ladd XJ1 hx  (hb hby d3_92) (q := 93) rfl ?_
            refine EKit.lstoreN XJ1 hx (l' := #[.val (.ref r0), .val (.int p1), .val (.int p2), .val (.long ((num * (10 : Int64)) + (((fi ii) - (48 : Int32)).toInt64))), .second, .val (.int ii), .val (.int ((fi ii) - (48 : Int32)))]) rfl (hb hby d3_93) (q := 94) rfl ?_
            refine EKit.iinc XJ1 hx (k0 := 5) (cst := 1) rfl (v := (ii + (1 : Int32))) rfl (l' := #[.val (.ref r0), .val (.int p1), .val (.int p2), .val (.long ((num * (10 : Int64)) + (((fi ii) - (48 : Int32)).toInt64))), .second, .val (.int (ii + (1 : Int32))), .val (.int ((fi ii) - (48 : Int32)))]) rfl (hb hby d3_94) (q := 97) rfl ?_
            refine EKit.goto XJ1 hx (hb hby d3_97) (by decide) (q := 14) (by decide) ?_
            exact ih14_1 _ (hn1 ▸ (own_bstep p1 p2 jb ii hj14.1 hj14.2 h2b (fi ii) (fun z => z ▸ h3b) h31 h38).2) TJ1 XJ1 eJ1 ((num * (10 : Int64)) + (((fi ii) - (48 : Int32)).toInt64)) (ii + (1 : Int32)) ((fi ii) - (48 : Int32)) (own_bstep p1 p2 jb ii hj14.1 hj14.2 h2b (fi ii) (fun z => z ▸ h3b) h31 h38).1 rfl
          · skip
            refine EKit.icmpNo XJ1 hx ((flt h51).1) (hb hby d3_51) (q := 54) rfl ?_
            refine EKit.lloadN XJ1 hx rfl (hb hby d3_54) (q := 55) rfl ?_
            refine EKit.ldc2Long XJ1 hx hZ hown (hw _ (List.mem_of_getElem? (i := 20) rfl)) (hb hby d3_55) (q := 58) rfl ?_
            refine EKit.lcmp XJ1 hx  (hb hby d3_58) (q := 59) rfl ?_
            by_cases h59 : (922337203685477580 : Int64) < num
            · skip
              refine EKit.ifYes XJ1 hx (EKit.c_t (tlt (EKit.g_t h59)).2.2.1) (hb hby d3_59) (by decide) (q := 80) (by decide) ?_
              refine EKit.ldc2Long XJ1 hx hZ hown (hw _ (List.mem_of_getElem? (i := 18) rfl)) (hb hby d3_80) (q := 83) rfl ?_
              exact EKit.retL XJ1 hx hret (hb hby d3_83) (⟨rfl, eJ1, rfl⟩) (by decide) (by decide)
            · skip
              refine EKit.ifNo XJ1 hx (EKit.c_t (flt (EKit.g_f h59)).2.2.1) (hb hby d3_59) (q := 62) rfl ?_
              refine EKit.ldc2Long XJ1 hx hZ hown (hw _ (List.mem_of_getElem? (i := 20) rfl)) (hb hby d3_62) (q := 65) rfl ?_
              refine EKit.lloadN XJ1 hx rfl (hb hby d3_65) (q := 66) rfl ?_
              refine EKit.lcmp XJ1 hx  (hb hby d3_66) (q := 67) rfl ?_
              by_cases h67 : (922337203685477580 : Int64) = num
              · skip
                refine EKit.ifNo XJ1 hx (EKit.c_t (teq (EKit.e_t h67)).2) (hb hby d3_67) (q := 70) rfl ?_
                refine EKit.iload XJ1 hx rfl (hb hby d3_70) (q := 72) rfl ?_
                refine EKit.i2l XJ1 hx  (hb hby d3_72) (q := 73) rfl ?_
                refine EKit.ldc2Long XJ1 hx hZ hown (hw _ (List.mem_of_getElem? (i := 21) rfl)) (hb hby d3_73) (q := 76) rfl ?_
                refine EKit.lcmp XJ1 hx  (hb hby d3_76) (q := 77) rfl ?_
                by_cases h77 : (7 : Int64) < (((fi ii) - (48 : Int32)).toInt64)
                · skip
                  refine EKit.ifNo XJ1 hx (EKit.c_t (tlt (EKit.g_t h77)).2.2.2) (hb hby d3_77) (q := 80) rfl ?_
                  refine EKit.ldc2Long XJ1 hx hZ hown (hw _ (List.mem_of_getElem? (i := 18) rfl)) (hb hby d3_80) (q := 83) rfl ?_
                  exact EKit.retL XJ1 hx hret (hb hby d3_83) (⟨rfl, eJ1, rfl⟩) (by decide) (by decide)
                · skip
                  refine EKit.ifYes XJ1 hx (EKit.c_t (flt (EKit.g_f h77)).2.2.2) (hb hby d3_77) (by decide) (q := 84) (by decide) ?_
                  refine EKit.lloadN XJ1 hx rfl (hb hby d3_84) (q := 85) rfl ?_
                  refine EKit.ldc2Long XJ1 hx hZ hown (hw _ (List.mem_of_getElem? (i := 12) rfl)) (hb hby d3_85) (q := 88) rfl ?_
                  refine EKit.lmul XJ1 hx  (hb hby d3_88) (q := 89) rfl ?_
                  refine EKit.iload XJ1 hx rfl (hb hby d3_89) (q := 91) rfl ?_
                  refine EKit.i2l XJ1 hx  (hb hby d3_91) (q := 92) rfl ?_
                  refine EKit.ladd XJ1 hx  (hb hby d3_92) (q := 93) rfl ?_
                  refine EKit.lstoreN XJ1 hx (l' := #[.val (.ref r0), .val (.int p1), .val (.int p2), .val (.long ((num * (10 : Int64)) + (((fi ii) - (48 : Int32)).toInt64))), .second, .val (.int ii), .val (.int ((fi ii) - (48 : Int32)))]) rfl (hb hby d3_93) (q := 94) rfl ?_
                  refine EKit.iinc XJ1 hx (k0 := 5) (cst := 1) rfl (v := (ii + (1 : Int32))) rfl (l' := #[.val (.ref r0), .val (.int p1), .val (.int p2), .val (.long ((num * (10 : Int64)) + (((fi ii) - (48 : Int32)).toInt64))), .second, .val (.int (ii + (1 : Int32))), .val (.int ((fi ii) - (48 : Int32)))]) rfl (hb hby d3_94) (q := 97) rfl ?_
                  refine EKit.goto XJ1 hx (hb hby d3_97) (by decide) (q := 14) (by decide) ?_
                  exact ih14_1 _ (hn1 ▸ (own_bstep p1 p2 jb ii hj14.1 hj14.2 h2b (fi ii) (fun z => z ▸ h3b) h31 h38).2) TJ1 XJ1 eJ1 ((num * (10 : Int64)) + (((fi ii) - (48 : Int32)).toInt64)) (ii + (1 : Int32)) ((fi ii) - (48 : Int32)) (own_bstep p1 p2 jb ii hj14.1 hj14.2 h2b (fi ii) (fun z => z ▸ h3b) h31 h38).1 rfl
              · skip
                refine EKit.ifYes XJ1 hx (EKit.c_t (feq (EKit.e_f h67)).2) (hb hby d3_67) (by decide) (q := 84) (by decide) ?_
                refine EKit.lloadN XJ1 hx rfl (hb hby d3_84) (q := 85) rfl ?_
                refine EKit.ldc2Long XJ1 hx hZ hown (hw _ (List.mem_of_getElem? (i := 12) rfl)) (hb hby d3_85) (q := 88) rfl ?_
                refine EKit.lmul XJ1 hx  (hb hby d3_88) (q := 89) rfl ?_
                refine EKit.iload XJ1 hx rfl (hb hby d3_89) (q := 91) rfl ?_
                refine EKit.i2l XJ1 hx  (hb hby d3_91) (q := 92) rfl ?_
                refine EKit.ladd XJ1 hx  (hb hby d3_92) (q := 93) rfl ?_
                refine EKit.lstoreN XJ1 hx (l' := #[.val (.ref r0), .val (.int p1), .val (.int p2), .val (.long ((num * (10 : Int64)) + (((fi ii) - (48 : Int32)).toInt64))), .second, .val (.int ii), .val (.int ((fi ii) - (48 : Int32)))]) rfl (hb hby d3_93) (q := 94) rfl ?_
                refine EKit.iinc XJ1 hx (k0 := 5) (cst := 1) rfl (v := (ii + (1 : Int32))) rfl (l' := #[.val (.ref r0), .val (.int p1), .val (.int p2), .val (.long ((num * (10 : Int64)) + (((fi ii) - (48 : Int32)).toInt64))), .second, .val (.int (ii + (1 : Int32))), .val (.int ((fi ii) - (48 : Int32)))]) rfl (hb hby d3_94) (q := 97) rfl ?_
                refine EKit.goto XJ1 hx (hb hby d3_97) (by decide) (q := 14) (by decide) ?_
                exact ih14_1 _ (hn1 ▸ (own_bstep p1 p2 jb ii hj14.1 hj14.2 h2b (fi ii) (fun z => z ▸ h3b) h31 h38).2) TJ1 XJ1 eJ1 ((num * (10 : Int64)) + (((fi ii) - (48 : Int32)).toInt64)) (ii + (1 : Int32)) ((fi ii) - (48 : Int32)) (own_bstep p1 p2 jb ii hj14.1 hj14.2 h2b (fi ii) (fun z => z ▸ h3b) h31 h38).1 rfl
  refine EKit.iloadN X0 hx rfl (hb hby d3_0) (q := 1) rfl ?_
  refine EKit.iloadN X0 hx rfl (hb hby d3_1) (q := 2) rfl ?_
  have h2 : p1 < p2 := hlt
  refine EKit.icmpYes X0 hx ((tlt h2).2.2.1) (hb hby d3_2) (by decide) (q := 9) (by decide) ?_
  refine EKit.lconst X0 hx (v := (0 : Int64)) rfl (hb hby d3_9) (q := 10) rfl ?_
  refine EKit.lstoreN X0 hx (l' := #[.val (.ref r0), .val (.int p1), .val (.int p2), .val (.long (0 : Int64)), .second, .unset, .unset]) rfl (hb hby d3_10) (q := 11) rfl ?_
  refine EKit.iloadN X0 hx rfl (hb hby d3_11) (q := 12) rfl ?_
  refine EKit.istore X0 hx (l' := #[.val (.ref r0), .val (.int p1), .val (.int p2), .val (.long (0 : Int64)), .second, .val (.int p1), .unset]) rfl (hb hby d3_12) (q := 14) rfl ?_
  refine EKit.iload X0 hx rfl (hb hby d3_14) (q := 16) rfl ?_
  refine EKit.iloadN X0 hx rfl (hb hby d3_16) (q := 17) rfl ?_
  have h17 : p1 < p2 := hlt
  refine EKit.icmpNo X0 hx ((tlt h17).2.1) (hb hby d3_17) (q := 20) rfl ?_
  refine EKit.aloadN X0 hx rfl rfl (hb hby d3_20) (q := 21) rfl ?_
  refine EKit.iload X0 hx rfl (hb hby d3_21) (q := 23) rfl ?_
  refine EKit.baloadB X0 hx hZ e0 A0 (own_in p1 p2 p1 nn ha (Int.le_refl _) hlt hb0).1 (own_in p1 p2 p1 nn ha (Int.le_refl _) hlt hb0).2 (v := (.int (fi p1))) rfl (hb hby d3_23) (q := 24) rfl ?_
  refine EKit.bipush X0 hx (v := (48 : Int32)) rfl (hb hby d3_24) (q := 26) rfl ?_
  refine EKit.isub X0 hx  (hb hby d3_26) (q := 27) rfl ?_
  refine EKit.istore X0 hx (l' := #[.val (.ref r0), .val (.int p1), .val (.int p2), .val (.long (0 : Int64)), .second, .val (.int p1), .val (.int ((fi p1) - (48 : Int32)))]) rfl (hb hby d3_27) (q := 29) rfl ?_
  refine EKit.iload X0 hx rfl (hb hby d3_29) (q := 31) rfl ?_
  by_cases h31 : ((fi p1) - (48 : Int32)) < (0 : Int32)
  · skip
    refine EKit.ifYes X0 hx (EKit.c_t (tlt h31).1) (hb hby d3_31) (by decide) (q := 41) (by decide) ?_
    refine EKit.ldc2Long X0 hx hZ hown (hw _ (List.mem_of_getElem? (i := 18) rfl)) (hb hby d3_41) (q := 44) rfl ?_
    exact EKit.retL X0 hx hret (hb hby d3_44) (⟨rfl, e0, rfl⟩) (by decide) (by decide)
  · skip
    refine EKit.ifNo X0 hx (EKit.c_t (flt h31).1) (hb hby d3_31) (q := 34) rfl ?_
    refine EKit.iload X0 hx rfl (hb hby d3_34) (q := 36) rfl ?_
    refine EKit.bipush X0 hx (v := (9 : Int32)) rfl (hb hby d3_36) (q := 38) rfl ?_
    by_cases h38 : (9 : Int32) < ((fi p1) - (48 : Int32))
    · skip
      refine EKit.icmpNo X0 hx ((tlt h38).2.2.2) (hb hby d3_38) (q := 41) rfl ?_
      refine EKit.ldc2Long X0 hx hZ hown (hw _ (List.mem_of_getElem? (i := 18) rfl)) (hb hby d3_41) (q := 44) rfl ?_
      exact EKit.retL X0 hx hret (hb hby d3_44) (⟨rfl, e0, rfl⟩) (by decide) (by decide)
    · skip
      refine EKit.icmpYes X0 hx ((flt h38).2.2.2) (hb hby d3_38) (by decide) (q := 45) (by decide) ?_
      refine EKit.iload X0 hx rfl (hb hby d3_45) (q := 47) rfl ?_
      refine EKit.iloadN X0 hx rfl (hb hby d3_47) (q := 48) rfl ?_
      refine EKit.isub X0 hx  (hb hby d3_48) (q := 49) rfl ?_
      refine EKit.bipush X0 hx (v := (18 : Int32)) rfl (hb hby d3_49) (q := 51) rfl ?_
      by_cases h51 : (p1 - p1) < (18 : Int32)
      · skip
        refine EKit.icmpYes X0 hx ((tlt h51).1) (hb hby d3_51) (by decide) (q := 84) (by decide) ?_
        refine EKit.lloadN X0 hx rfl (hb hby d3_84) (q := 85) rfl ?_
        refine EKit.ldc2Long X0 hx hZ hown (hw _ (List.mem_of_getElem? (i := 12) rfl)) (hb hby d3_85) (q := 88) rfl ?_
        refine EKit.lmul X0 hx  (hb hby d3_88) (q := 89) rfl ?_
        refine EKit.iload X0 hx rfl (hb hby d3_89) (q := 91) rfl ?_
        refine EKit.i2l X0 hx  (hb hby d3_91) (q := 92) rfl ?_
        refine EKit.ladd X0 hx  (hb hby d3_92) (q := 93) rfl ?_
        refine EKit.lstoreN X0 hx (l' := #[.val (.ref r0), .val (.int p1), .val (.int p2), .val (.long (((0 : Int64) * (10 : Int64)) + (((fi p1) - (48 : Int32)).toInt64))), .second, .val (.int p1), .val (.int ((fi p1) - (48 : Int32)))]) rfl (hb hby d3_93) (q := 94) rfl ?_
        refine EKit.iinc X0 hx (k0 := 5) (cst := 1) rfl (v := (p1 + (1 : Int32))) rfl (l' := #[.val (.ref r0), .val (.int p1), .val (.int p2), .val (.long (((0 : Int64) * (10 : Int64)) + (((fi p1) - (48 : Int32)).toInt64))), .second, .val (.int (p1 + (1 : Int32))), .val (.int ((fi p1) - (48 : Int32)))]) rfl (hb hby d3_94) (q := 97) rfl ?_
        refine EKit.goto X0 hx (hb hby d3_97) (by decide) (q := 14) (by decide) ?_
        exact J14_1 _ s₁ X0 e0 (((0 : Int64) * (10 : Int64)) + (((fi p1) - (48 : Int32)).toInt64)) (p1 + (1 : Int32)) ((fi p1) - (48 : Int32)) (own_bstep p1 p2 jb p1 (Int.le_refl _) h1b h2b (fi p1) (fun z => z ▸ h3b) h31 h38).1 rfl
      · skip
        refine EKit.icmpNo X0 hx ((flt h51).1) (hb hby d3_51) (q := 54) rfl ?_
        refine EKit.lloadN X0 hx rfl (hb hby d3_54) (q := 55) rfl ?_
        refine EKit.ldc2Long X0 hx hZ hown (hw _ (List.mem_of_getElem? (i := 20) rfl)) (hb hby d3_55) (q := 58) rfl ?_
        refine EKit.lcmp X0 hx  (hb hby d3_58) (q := 59) rfl ?_
        have h59 : ¬ ((922337203685477580 : Int64) < (0 : Int64)) := by decide
        refine EKit.ifNo X0 hx (EKit.c_t (flt (EKit.g_f h59)).2.2.1) (hb hby d3_59) (q := 62) rfl ?_
        refine EKit.ldc2Long X0 hx hZ hown (hw _ (List.mem_of_getElem? (i := 20) rfl)) (hb hby d3_62) (q := 65) rfl ?_
        refine EKit.lloadN X0 hx rfl (hb hby d3_65) (q := 66) rfl ?_
        refine EKit.lcmp X0 hx  (hb hby d3_66) (q := 67) rfl ?_
        have h67 : ¬ ((922337203685477580 : Int64) = (0 : Int64)) := by decide
        refine EKit.ifYes X0 hx (EKit.c_t (feq (EKit.e_f h67)).2) (hb hby d3_67) (by decide) (q := 84) (by decide) ?_
        refine EKit.lloadN X0 hx rfl (hb hby d3_84) (q := 85) rfl ?_
        refine EKit.ldc2Long X0 hx hZ hown (hw _ (List.mem_of_getElem? (i := 12) rfl)) (hb hby d3_85) (q := 88) rfl ?_
        refine EKit.lmul X0 hx  (hb hby d3_88) (q := 89) rfl ?_
        refine EKit.iload X0 hx rfl (hb hby d3_89) (q := 91) rfl ?_
        refine EKit.i2l X0 hx  (hb hby d3_91) (q := 92) rfl ?_
        refine EKit.ladd X0 hx  (hb hby d3_92) (q := 93) rfl ?_
        refine EKit.lstoreN X0 hx (l' := #[.val (.ref r0), .val (.int p1), .val (.int p2), .val (.long (((0 : Int64) * (10 : Int64)) + (((fi p1) - (48 : Int32)).toInt64))), .second, .val (.int p1), .val (.int ((fi p1) - (48 : Int32)))]) rfl (hb hby d3_93) (q := 94) rfl ?_
        refine EKit.iinc X0 hx (k0 := 5) (cst := 1) rfl (v := (p1 + (1 : Int32))) rfl (l' := #[.val (.ref r0), .val (.int p1), .val (.int p2), .val (.long (((0 : Int64) * (10 : Int64)) + (((fi p1) - (48 : Int32)).toInt64))), .second, .val (.int (p1 + (1 : Int32))), .val (.int ((fi p1) - (48 : Int32)))]) rfl (hb hby d3_94) (q := 97) rfl ?_
        refine EKit.goto X0 hx (hb hby d3_97) (by decide) (q := 14) (by decide) ?_
        exact J14_1 _ s₁ X0 e0 (((0 : Int64) * (10 : Int64)) + (((fi p1) - (48 : Int32)).toInt64)) (p1 + (1 : Int32)) ((fi p1) - (48 : Int32)) (own_bstep p1 p2 jb p1 (Int.le_refl _) h1b h2b (fi p1) (fun z => z ▸ h3b) h31 h38).1 rfl
theorem own_read (l : Launch) (Z : State) (a0 : Array Value) (hw : ∀ d ∈ tables_1, d.before a0 Z = true) (b : Addr) (h0 : Heap) (to : Int32) (ex : Int64) (g : Int32 → Value) (kb : ClassId) (A : Ary Z h0 b kb .byte (26 : Int32) g) (H : own_fin g to ex) : Pays l Z (⟨"com/example/mirrorgauge/mirrorgauge/message/Decimal", "read", "([BII)J"⟩ : MethodName) prog_49_method_5_code 7 (some .long) [] ({ frames := 0, cells := 0, slots := 0, locals := 0 } : Room) #[(.ref b), (.int (1 : Int32)), (.int to)] h0 (RetQ (some (.long ex)) h0) := by
  obtain ⟨t1, t2, hi, H⟩ := H
  have hlt : (1 : Int32) < to := by rw [own_lt32, show (1 : Int32).toInt = 1 from rfl]; omega
  have hb0 : to.toInt ≤ (26 : Int32).toInt := by rw [show (26 : Int32).toInt = 26 from rfl]; omega
  rcases H with ⟨jb, h1, h2, h3, rfl⟩ | ⟨N, hN, Hd, rfl⟩
  · exact rmRB l Z a0 hw [] b 1 to h0 kb 26 (fun j => own_toI (g j)) (A.eq hi) (by decide) hlt hb0 jb (by rw [own_lt32] at h1; exact Int.not_lt.mp h1) h2 h3
  · exact rmRG l Z a0 hw [] b 1 to h0 kb 26 (fun j => own_toI (g j)) (A.eq hi) (by decide) hlt hb0 N hN Hd
theorem ef_rm0 (m : MethodId) (x0 : Int64) (x1 : Int32) (x2 : Int32) (x3 : Int32) (x4 : Int32) : entryFrame m #[(.long x0), (.int x1), (.int x2), (.int x3), (.int x4)] maxLocals = mkF m 0 #[.val (.long x0), .second, .val (.int x1), .val (.int x2), .val (.int x3), .val (.int x4), .unset, .unset, .unset, .unset, .unset, .unset, .unset, .unset, .unset, .unset, .unset, .unset, .unset, .unset, .unset] [] := by first | (simp [entryFrame, mkF, argsToLocals, Value.category, maxLocals]; done) | rfl
theorem pn_com_example_mirrorgauge_mirrorgauge_message_DecimalReadPinLaw : plainName "com/example/mirrorgauge/mirrorgauge/message/DecimalReadPinLaw" = true := by first | (simp [plainName, overriddenIn]; done) | decide +kernel
theorem pd___BIJ_I : parseMethodDescriptor "([BIJ)I" = some ⟨[(.array .byte), .int, .long], some .int⟩ := by decide +kernel
theorem pd___BII_J : parseMethodDescriptor "([BII)J" = some ⟨[(.array .byte), .int, .int], some .long⟩ := by decide +kernel
set_option maxRecDepth 65536 in
set_option maxHeartbeats 40000000 in
theorem rm0 (l : Launch) (Z : State) (a0 : Array Value) (hw : ∀ d ∈ tables_1, d.before a0 Z = true) (ws : List Jvm.Cond) (q0 : Int64) (p1 : Int32) (p2 : Int32) (p3 : Int32) (p4 : Int32) (h0 : Heap)  (w_P : Addr) (kk : ClassId) (S_P : Sta Z h0 "com/example/mirrorgauge/mirrorgauge/message/Decimal" "POWERS" "[J" (.ref w_P)) (A_P : Ary Z h0 w_P kk .long (19 : Int32) (fun j => .long (own_pow j))) :
    Pays l Z x code maxLocals ret ws room_1 #[(.long q0), (.int p1), (.int p2), (.int p3), (.int p4)] h0 (fun v h L => v = some (.int (1 : Int32)) ∧ Fr h0.size L) := by
  refine EKit.pays (plainFor_of_name pn_com_example_mirrorgauge_mirrorgauge_message_DecimalReadPinLaw) (fun m => ef_rm0 m q0 p1 p2 p3 p4) ?_
  intro p e s m below meth c s₁ hx hby hml hZ hown hnm hret X0 e0 hs0
  refine EKit.lloadN X0 hx rfl (hb hby at_0) (q := 1) rfl ?_
  refine EKit.ldc2Long X0 hx hZ hown (hw _ (List.mem_of_getElem? (i := 0) rfl)) (hb hby at_1) (q := 4) rfl ?_
  refine EKit.land X0 hx  (hb hby at_4) (q := 5) rfl ?_
  refine EKit.lstore X0 hx (l' := #[.val (.long q0), .second, .val (.int p1), .val (.int p2), .val (.int p3), .val (.int p4), .val (.long (q0 &&& (9223372036854775807 : Int64))), .second, .unset, .unset, .unset, .unset, .unset, .unset, .unset, .unset, .unset, .unset, .unset, .unset, .unset]) rfl (hb hby at_5) (q := 7) rfl ?_
  refine EKit.iloadN X0 hx rfl (hb hby at_7) (q := 8) rfl ?_
  refine EKit.iconst X0 hx (v := (3 : Int32)) rfl (hb hby at_8) (q := 9) rfl ?_
  refine EKit.iand X0 hx  (hb hby at_9) (q := 10) rfl ?_
  refine EKit.istore X0 hx (l' := #[.val (.long q0), .second, .val (.int p1), .val (.int p2), .val (.int p3), .val (.int p4), .val (.long (q0 &&& (9223372036854775807 : Int64))), .second, .val (.int (p1 &&& (3 : Int32))), .unset, .unset, .unset, .unset, .unset, .unset, .unset, .unset, .unset, .unset, .unset, .unset]) rfl (hb hby at_10) (q := 12) rfl ?_
  refine EKit.iloadN X0 hx rfl (hb hby at_12) (q := 13) rfl ?_
  refine EKit.iconst X0 hx (v := (2 : Int32)) rfl (hb hby at_13) (q := 14) rfl ?_
  refine EKit.ishr X0 hx  (hb hby at_14) (q := 15) rfl ?_
  refine EKit.iconst X0 hx (v := (1 : Int32)) rfl (hb hby at_15) (q := 16) rfl ?_
  refine EKit.iand X0 hx  (hb hby at_16) (q := 17) rfl ?_
  have J25_1 : ∀ (TJ1 : State) (XJ1 : Stand p l e room_1 s m #[(.long q0), (.int p1), (.int p2), (.int p3), (.int p4)] below meth c TJ1 [] 0 0) (eJ1 : TJ1.heap = h0) (ap : Int32) (hj25 : ap = 0 ∨ ap = 1), EKit.Ends p l e room_1 s m #[(.long q0), (.int p1), (.int p2), (.int p3), (.int p4)] below meth c room_1.cells room_1.slots (fun v h L => v = some (.int (1 : Int32)) ∧ Fr h0.size L) TJ1 (mkF m 25 #[.val (.long q0), .second, .val (.int p1), .val (.int p2), .val (.int p3), .val (.int p4), .val (.long (q0 &&& (9223372036854775807 : Int64))), .second, .val (.int (p1 &&& (3 : Int32))), .unset, .unset, .unset, .unset, .unset, .unset, .unset, .unset, .unset, .unset, .unset, .unset] [(.int ap)]) := by
    intro TJ1 XJ1 eJ1 ap hj25
    refine EKit.istore XJ1 hx (l' := #[.val (.long q0), .second, .val (.int p1), .val (.int p2), .val (.int p3), .val (.int p4), .val (.long (q0 &&& (9223372036854775807 : Int64))), .second, .val (.int (p1 &&& (3 : Int32))), .val (.int ap), .unset, .unset, .unset, .unset, .unset, .unset, .unset, .unset, .unset, .unset, .unset]) rfl (hb hby at_25) (q := 27) rfl ?_
    refine EKit.iloadN XJ1 hx rfl (hb hby at_27) (q := 28) rfl ?_
    refine EKit.iconst XJ1 hx (v := (3 : Int32)) rfl (hb hby at_28) (q := 29) rfl ?_
    refine EKit.ishr XJ1 hx  (hb hby at_29) (q := 30) rfl ?_
    refine EKit.iconst XJ1 hx (v := (1 : Int32)) rfl (hb hby at_30) (q := 31) rfl ?_
    refine EKit.iand XJ1 hx  (hb hby at_31) (q := 32) rfl ?_
    have J40_2 : ∀ (TJ2 : State) (XJ2 : Stand p l e room_1 s m #[(.long q0), (.int p1), (.int p2), (.int p3), (.int p4)] below meth c TJ2 [] 0 0) (eJ2 : TJ2.heap = h0) (co : Int32) (hj40 : co = 0 ∨ co = 1), EKit.Ends p l e room_1 s m #[(.long q0), (.int p1), (.int p2), (.int p3), (.int p4)] below meth c room_1.cells room_1.slots (fun v h L => v = some (.int (1 : Int32)) ∧ Fr h0.size L) TJ2 (mkF m 40 #[.val (.long q0), .second, .val (.int p1), .val (.int p2), .val (.int p3), .val (.int p4), .val (.long (q0 &&& (9223372036854775807 : Int64))), .second, .val (.int (p1 &&& (3 : Int32))), .val (.int ap), .unset, .unset, .unset, .unset, .unset, .unset, .unset, .unset, .unset, .unset, .unset] [(.int co)]) := by
      intro TJ2 XJ2 eJ2 co hj40
      refine EKit.istore XJ2 hx (l' := #[.val (.long q0), .second, .val (.int p1), .val (.int p2), .val (.int p3), .val (.int p4), .val (.long (q0 &&& (9223372036854775807 : Int64))), .second, .val (.int (p1 &&& (3 : Int32))), .val (.int ap), .val (.int co), .unset, .unset, .unset, .unset, .unset, .unset, .unset, .unset, .unset, .unset]) rfl (hb hby at_40) (q := 42) rfl ?_
      refine EKit.iloadN XJ2 hx rfl (hb hby at_42) (q := 43) rfl ?_
      refine EKit.iconst XJ2 hx (v := (4 : Int32)) rfl (hb hby at_43) (q := 44) rfl ?_
      refine EKit.ishr XJ2 hx  (hb hby at_44) (q := 45) rfl ?_
      refine EKit.iconst XJ2 hx (v := (1 : Int32)) rfl (hb hby at_45) (q := 46) rfl ?_
      refine EKit.iand XJ2 hx  (hb hby at_46) (q := 47) rfl ?_
      have J55_3 : ∀ (TJ3 : State) (XJ3 : Stand p l e room_1 s m #[(.long q0), (.int p1), (.int p2), (.int p3), (.int p4)] below meth c TJ3 [] 0 0) (eJ3 : TJ3.heap = h0) (em : Int32) (hj55 : em = 0 ∨ em = 1), EKit.Ends p l e room_1 s m #[(.long q0), (.int p1), (.int p2), (.int p3), (.int p4)] below meth c room_1.cells room_1.slots (fun v h L => v = some (.int (1 : Int32)) ∧ Fr h0.size L) TJ3 (mkF m 55 #[.val (.long q0), .second, .val (.int p1), .val (.int p2), .val (.int p3), .val (.int p4), .val (.long (q0 &&& (9223372036854775807 : Int64))), .second, .val (.int (p1 &&& (3 : Int32))), .val (.int ap), .val (.int co), .unset, .unset, .unset, .unset, .unset, .unset, .unset, .unset, .unset, .unset] [(.int em)]) := by
        intro TJ3 XJ3 eJ3 em hj55
        refine EKit.istore XJ3 hx (l' := #[.val (.long q0), .second, .val (.int p1), .val (.int p2), .val (.int p3), .val (.int p4), .val (.long (q0 &&& (9223372036854775807 : Int64))), .second, .val (.int (p1 &&& (3 : Int32))), .val (.int ap), .val (.int co), .val (.int em), .unset, .unset, .unset, .unset, .unset, .unset, .unset, .unset, .unset]) rfl (hb hby at_55) (q := 57) rfl ?_
        refine EKit.iloadN XJ3 hx rfl (hb hby at_57) (q := 58) rfl ?_
        refine EKit.iconst XJ3 hx (v := (5 : Int32)) rfl (hb hby at_58) (q := 59) rfl ?_
        refine EKit.iushr XJ3 hx  (hb hby at_59) (q := 60) rfl ?_
        refine EKit.bipush XJ3 hx (v := (10 : Int32)) rfl (hb hby at_60) (q := 62) rfl ?_
        refine EKit.irem XJ3 hx (by decide) (hb hby at_62) (q := 63) rfl ?_
        refine EKit.istore XJ3 hx (l' := #[.val (.long q0), .second, .val (.int p1), .val (.int p2), .val (.int p3), .val (.int p4), .val (.long (q0 &&& (9223372036854775807 : Int64))), .second, .val (.int (p1 &&& (3 : Int32))), .val (.int ap), .val (.int co), .val (.int em), .val (.int (((p1.toUInt32 >>> ((5 : Int32) &&& 31).toUInt32).toInt32) % (10 : Int32))), .unset, .unset, .unset, .unset, .unset, .unset, .unset, .unset]) rfl (hb hby at_63) (q := 65) rfl ?_
        refine EKit.iloadN XJ3 hx rfl (hb hby at_65) (q := 66) rfl ?_
        refine EKit.i2b XJ3 hx  (hb hby at_66) (q := 67) rfl ?_
        refine EKit.istore XJ3 hx (l' := #[.val (.long q0), .second, .val (.int p1), .val (.int p2), .val (.int p3), .val (.int p4), .val (.long (q0 &&& (9223372036854775807 : Int64))), .second, .val (.int (p1 &&& (3 : Int32))), .val (.int ap), .val (.int co), .val (.int em), .val (.int (((p1.toUInt32 >>> ((5 : Int32) &&& 31).toUInt32).toInt32) % (10 : Int32))), .val (.int (p2.toInt8.toInt32)), .unset, .unset, .unset, .unset, .unset, .unset, .unset]) rfl (hb hby at_67) (q := 69) rfl ?_
        refine EKit.iloadN XJ3 hx rfl (hb hby at_69) (q := 70) rfl ?_
        refine EKit.bipush XJ3 hx (v := (8 : Int32)) rfl (hb hby at_70) (q := 72) rfl ?_
        refine EKit.ishr XJ3 hx  (hb hby at_72) (q := 73) rfl ?_
        refine EKit.i2b XJ3 hx  (hb hby at_73) (q := 74) rfl ?_
        refine EKit.istore XJ3 hx (l' := #[.val (.long q0), .second, .val (.int p1), .val (.int p2), .val (.int p3), .val (.int p4), .val (.long (q0 &&& (9223372036854775807 : Int64))), .second, .val (.int (p1 &&& (3 : Int32))), .val (.int ap), .val (.int co), .val (.int em), .val (.int (((p1.toUInt32 >>> ((5 : Int32) &&& 31).toUInt32).toInt32) % (10 : Int32))), .val (.int (p2.toInt8.toInt32)), .val (.int ((p2 >>> ((8 : Int32) &&& 31)).toInt8.toInt32)), .unset, .unset, .unset, .unset, .unset, .unset]) rfl (hb hby at_74) (q := 76) rfl ?_
        refine EKit.iloadN XJ3 hx rfl (hb hby at_76) (q := 77) rfl ?_
        refine EKit.bipush XJ3 hx (v := (16 : Int32)) rfl (hb hby at_77) (q := 79) rfl ?_
        refine EKit.ishr XJ3 hx  (hb hby at_79) (q := 80) rfl ?_
        refine EKit.i2b XJ3 hx  (hb hby at_80) (q := 81) rfl ?_
        refine EKit.istore XJ3 hx (l' := #[.val (.long q0), .second, .val (.int p1), .val (.int p2), .val (.int p3), .val (.int p4), .val (.long (q0 &&& (9223372036854775807 : Int64))), .second, .val (.int (p1 &&& (3 : Int32))), .val (.int ap), .val (.int co), .val (.int em), .val (.int (((p1.toUInt32 >>> ((5 : Int32) &&& 31).toUInt32).toInt32) % (10 : Int32))), .val (.int (p2.toInt8.toInt32)), .val (.int ((p2 >>> ((8 : Int32) &&& 31)).toInt8.toInt32)), .val (.int ((p2 >>> ((16 : Int32) &&& 31)).toInt8.toInt32)), .unset, .unset, .unset, .unset, .unset]) rfl (hb hby at_81) (q := 83) rfl ?_
        refine EKit.bipush XJ3 hx (v := (26 : Int32)) rfl (hb hby at_83) (q := 85) rfl ?_
        refine EKit.newarr XJ3 hx hZ eJ3 (hw _ (List.mem_of_getElem? (i := 1) rfl)) (by decide) (cap := 26) (by decide) (by decide) (by decide) (by decide) (hb hby at_85) (q := 87) rfl ?_
        intro T4 h4 b4 k4 X4 e4 E4 g4 V4
        have V4 : Ary Z h4 b4 k4 .byte (26 : Int32) (fun _ => (.int (0 : Int32))) := V4
        have gn_b4 : h0.size ≤ b4 := Nat.le_trans (Nat.le_refl _) (Nat.le_of_eq g4.symm)
        have sz4 : h0.size ≤ h4.size := Nat.le_trans (Nat.le_refl _) E4.1
        have EX4 := E4
        show EKit.Ends p l e room_1 s m #[(.long q0), (.int p1), (.int p2), (.int p3), (.int p4)] below meth c room_1.cells room_1.slots (fun v h L => v = some (.int (1 : Int32)) ∧ Fr h0.size L) T4 (mkF m 87 #[.val (.long q0), .second, .val (.int p1), .val (.int p2), .val (.int p3), .val (.int p4), .val (.long (q0 &&& (9223372036854775807 : Int64))), .second, .val (.int (p1 &&& (3 : Int32))), .val (.int ap), .val (.int co), .val (.int em), .val (.int (((p1.toUInt32 >>> ((5 : Int32) &&& 31).toUInt32).toInt32) % (10 : Int32))), .val (.int (p2.toInt8.toInt32)), .val (.int ((p2 >>> ((8 : Int32) &&& 31)).toInt8.toInt32)), .val (.int ((p2 >>> ((16 : Int32) &&& 31)).toInt8.toInt32)), .unset, .unset, .unset, .unset, .unset] [(.ref b4)])
        refine EKit.astore X4 hx rfl (l' := #[.val (.long q0), .second, .val (.int p1), .val (.int p2), .val (.int p3), .val (.int p4), .val (.long (q0 &&& (9223372036854775807 : Int64))), .second, .val (.int (p1 &&& (3 : Int32))), .val (.int ap), .val (.int co), .val (.int em), .val (.int (((p1.toUInt32 >>> ((5 : Int32) &&& 31).toUInt32).toInt32) % (10 : Int32))), .val (.int (p2.toInt8.toInt32)), .val (.int ((p2 >>> ((8 : Int32) &&& 31)).toInt8.toInt32)), .val (.int ((p2 >>> ((16 : Int32) &&& 31)).toInt8.toInt32)), .val (.ref b4), .unset, .unset, .unset, .unset]) rfl (hb hby at_87) (q := 89) rfl ?_
        refine EKit.aload X4 hx rfl rfl (hb hby at_89) (q := 91) rfl ?_
        refine EKit.iconst X4 hx (v := (0 : Int32)) rfl (hb hby at_91) (q := 92) rfl ?_
        refine EKit.iload X4 hx rfl (hb hby at_92) (q := 94) rfl ?_
        refine EKit.bastoreB X4 hx hZ e4 V4 (by decide) (by decide) (hb hby at_94) (q := 95) rfl ?_
        intro T5 h5 X5 e5 W5 V5
        have X5 := Stand.forget X5 (fun y hy => by cases List.mem_singleton.mp hy; rw [hs0]; exact gn_b4)
        have sz5 : h0.size ≤ h5.size := Nat.le_trans sz4 (Keep.of_wr W5).1
        have EX5 := EKit.Ext_wr EX4 W5 gn_b4
        refine EKit.iload X5 hx rfl (hb hby at_95) (q := 97) rfl ?_
        refine EKit.iconst X5 hx (v := (1 : Int32)) rfl (hb hby at_97) (q := 98) rfl ?_
        have J107_6 : ∀ (TJ6 : State) (hJ6 : Heap) (XJ6 : Stand p l e room_1 s m #[(.long q0), (.int p1), (.int p2), (.int p3), (.int p4)] below meth c TJ6 [] 1 26) (eJ6 : TJ6.heap = hJ6) (EXJ6 : Ext h0 hJ6) (szJ6 : h0.size ≤ hJ6.size)  (g1 : Int32 → Value) (VJ6_b4 : Ary Z hJ6 b4 k4 .byte (26 : Int32) g1) (hj107 : own_P 1 (p1 &&& (3 : Int32)) g1), EKit.Ends p l e room_1 s m #[(.long q0), (.int p1), (.int p2), (.int p3), (.int p4)] below meth c room_1.cells room_1.slots (fun v h L => v = some (.int (1 : Int32)) ∧ Fr h0.size L) TJ6 (mkF m 107 #[.val (.long q0), .second, .val (.int p1), .val (.int p2), .val (.int p3), .val (.int p4), .val (.long (q0 &&& (9223372036854775807 : Int64))), .second, .val (.int (p1 &&& (3 : Int32))), .val (.int ap), .val (.int co), .val (.int em), .val (.int (((p1.toUInt32 >>> ((5 : Int32) &&& 31).toUInt32).toInt32) % (10 : Int32))), .val (.int (p2.toInt8.toInt32)), .val (.int ((p2 >>> ((8 : Int32) &&& 31)).toInt8.toInt32)), .val (.int ((p2 >>> ((16 : Int32) &&& 31)).toInt8.toInt32)), .val (.ref b4), .unset, .unset, .unset, .unset] []) := by
          intro TJ6 hJ6 XJ6 eJ6 EXJ6 szJ6 g1 VJ6_b4 hj107
          refine EKit.iload XJ6 hx rfl (hb hby at_107) (q := 109) rfl ?_
          refine EKit.iconst XJ6 hx (v := (2 : Int32)) rfl (hb hby at_109) (q := 110) rfl ?_
          have J119_7 : ∀ (TJ7 : State) (hJ7 : Heap) (XJ7 : Stand p l e room_1 s m #[(.long q0), (.int p1), (.int p2), (.int p3), (.int p4)] below meth c TJ7 [] 1 26) (eJ7 : TJ7.heap = hJ7) (EXJ7 : Ext h0 hJ7) (szJ7 : h0.size ≤ hJ7.size)  (g2 : Int32 → Value) (VJ7_b4 : Ary Z hJ7 b4 k4 .byte (26 : Int32) g2) (hj119 : own_P 2 (p1 &&& (3 : Int32)) g2), EKit.Ends p l e room_1 s m #[(.long q0), (.int p1), (.int p2), (.int p3), (.int p4)] below meth c room_1.cells room_1.slots (fun v h L => v = some (.int (1 : Int32)) ∧ Fr h0.size L) TJ7 (mkF m 119 #[.val (.long q0), .second, .val (.int p1), .val (.int p2), .val (.int p3), .val (.int p4), .val (.long (q0 &&& (9223372036854775807 : Int64))), .second, .val (.int (p1 &&& (3 : Int32))), .val (.int ap), .val (.int co), .val (.int em), .val (.int (((p1.toUInt32 >>> ((5 : Int32) &&& 31).toUInt32).toInt32) % (10 : Int32))), .val (.int (p2.toInt8.toInt32)), .val (.int ((p2 >>> ((8 : Int32) &&& 31)).toInt8.toInt32)), .val (.int ((p2 >>> ((16 : Int32) &&& 31)).toInt8.toInt32)), .val (.ref b4), .unset, .unset, .unset, .unset] []) := by
            intro TJ7 hJ7 XJ7 eJ7 EXJ7 szJ7 g2 VJ7_b4 hj119
            refine EKit.iload XJ7 hx rfl (hb hby at_119) (q := 121) rfl ?_
            refine EKit.iconst XJ7 hx (v := (3 : Int32)) rfl (hb hby at_121) (q := 122) rfl ?_
            have J131_8 : ∀ (TJ8 : State) (hJ8 : Heap) (XJ8 : Stand p l e room_1 s m #[(.long q0), (.int p1), (.int p2), (.int p3), (.int p4)] below meth c TJ8 [] 1 26) (eJ8 : TJ8.heap = hJ8) (EXJ8 : Ext h0 hJ8) (szJ8 : h0.size ≤ hJ8.size)  (g3 : Int32 → Value) (VJ8_b4 : Ary Z hJ8 b4 k4 .byte (26 : Int32) g3) (hj131 : own_P 3 (p1 &&& (3 : Int32)) g3), EKit.Ends p l e room_1 s m #[(.long q0), (.int p1), (.int p2), (.int p3), (.int p4)] below meth c room_1.cells room_1.slots (fun v h L => v = some (.int (1 : Int32)) ∧ Fr h0.size L) TJ8 (mkF m 131 #[.val (.long q0), .second, .val (.int p1), .val (.int p2), .val (.int p3), .val (.int p4), .val (.long (q0 &&& (9223372036854775807 : Int64))), .second, .val (.int (p1 &&& (3 : Int32))), .val (.int ap), .val (.int co), .val (.int em), .val (.int (((p1.toUInt32 >>> ((5 : Int32) &&& 31).toUInt32).toInt32) % (10 : Int32))), .val (.int (p2.toInt8.toInt32)), .val (.int ((p2 >>> ((8 : Int32) &&& 31)).toInt8.toInt32)), .val (.int ((p2 >>> ((16 : Int32) &&& 31)).toInt8.toInt32)), .val (.ref b4), .unset, .unset, .unset, .unset] []) := by
              intro TJ8 hJ8 XJ8 eJ8 EXJ8 szJ8 g3 VJ8_b4 hj131
              have hrel := own_rel0 g3 (p1 &&& (3 : Int32)) (q0 &&& (9223372036854775807 : Int64)) (own_zrng p1).1 (own_zrng p1).2 (own_qrng q0) hj131
              refine EKit.aload XJ8 hx rfl rfl (hb hby at_131) (q := 133) rfl ?_
              refine EKit.iconst XJ8 hx (v := (1 : Int32)) rfl (hb hby at_133) (q := 134) rfl ?_
              refine EKit.iload XJ8 hx rfl (hb hby at_134) (q := 136) rfl ?_
              refine EKit.iadd XJ8 hx  (hb hby at_136) (q := 137) rfl ?_
              refine EKit.lload XJ8 hx rfl (hb hby at_137) (q := 139) rfl ?_
              refine EKit.callS XJ8 hx hZ hown eJ8 (y := (⟨"com/example/mirrorgauge/mirrorgauge/message/Decimal", "put", "([BIJ)I"⟩ : MethodName)) (hw _ (List.mem_of_getElem? (i := 2) rfl)) (hw _ (List.mem_of_getElem? (i := 3) rfl)) (hw _ (List.mem_of_getElem? (i := 4) rfl)) (hw _ (List.mem_of_getElem? (i := 5) rfl)) (by decide) (argsL := [(.ref b4), (.int ((1 : Int32) + (p1 &&& (3 : Int32)))), (.long (q0 &&& (9223372036854775807 : Int64)))]) (rm1 l Z a0 hw [] b4 ((1 : Int32) + (p1 &&& (3 : Int32))) (q0 &&& (9223372036854775807 : Int64)) hJ8 k4 (26 : Int32) (fun j => own_toI (g3 j)) (VJ8_b4.eq (fun j z1 z2 => (hj131 j z1 z2).1)) h0.size gn_b4 w_P kk (S_P.ext EXJ8) (A_P.ext EXJ8) (own_qrng q0) (by rw [hrel.2.1]; have z := own_zrng p1; omega) (hrel.2.2.1.trans (congrArg (· + _) hrel.2.1.symm)) (Int.le_trans hrel.2.2.2 (by decide))) (rest := []) (by rw [hml]; rfl) pd___BIJ_I rfl (W := 0) (Nat.le_of_eq rfl) (by decide) (by decide) (by decide) (by decide) rfl (hb hby at_139) (q := 142) rfl ?_
              intro T9 v9 L9 X9 hQ9
              obtain ⟨rfl, N9q, K9, V9⟩ := hQ9
              have X9 := Stand.forget X9 (fun y hy => by rw [hs0]; exact N9q y hy)
              have sz9 : h0.size ≤ T9.heap.size := Nat.le_trans szJ8 K9.1
              have EX9 := EKit.Ext_keep EXJ8 K9 (allS gn_b4 all0)
              show EKit.Ends p l e room_1 s m #[(.long q0), (.int p1), (.int p2), (.int p3), (.int p4)] below meth c room_1.cells room_1.slots (fun v h L => v = some (.int (1 : Int32)) ∧ Fr h0.size L) T9 (mkF m 142 #[.val (.long q0), .second, .val (.int p1), .val (.int p2), .val (.int p3), .val (.int p4), .val (.long (q0 &&& (9223372036854775807 : Int64))), .second, .val (.int (p1 &&& (3 : Int32))), .val (.int ap), .val (.int co), .val (.int em), .val (.int (((p1.toUInt32 >>> ((5 : Int32) &&& 31).toUInt32).toInt32) % (10 : Int32))), .val (.int (p2.toInt8.toInt32)), .val (.int ((p2 >>> ((8 : Int32) &&& 31)).toInt8.toInt32)), .val (.int ((p2 >>> ((16 : Int32) &&& 31)).toInt8.toInt32)), .val (.ref b4), .unset, .unset, .unset, .unset] [(.int (((1 : Int32) + (p1 &&& (3 : Int32))) + (own_len (q0 &&& (9223372036854775807 : Int64)))))])
              refine EKit.istore X9 hx (l' := #[.val (.long q0), .second, .val (.int p1), .val (.int p2), .val (.int p3), .val (.int p4), .val (.long (q0 &&& (9223372036854775807 : Int64))), .second, .val (.int (p1 &&& (3 : Int32))), .val (.int ap), .val (.int co), .val (.int em), .val (.int (((p1.toUInt32 >>> ((5 : Int32) &&& 31).toUInt32).toInt32) % (10 : Int32))), .val (.int (p2.toInt8.toInt32)), .val (.int ((p2 >>> ((8 : Int32) &&& 31)).toInt8.toInt32)), .val (.int ((p2 >>> ((16 : Int32) &&& 31)).toInt8.toInt32)), .val (.ref b4), .val (.int (((1 : Int32) + (p1 &&& (3 : Int32))) + (own_len (q0 &&& (9223372036854775807 : Int64))))), .unset, .unset, .unset]) rfl (hb hby at_142) (q := 144) rfl ?_
              refine EKit.iload X9 hx rfl (hb hby at_144) (q := 146) rfl ?_
              have J166_10 : ∀ (TJ10 : State) (hJ10 : Heap) (XJ10 : Stand p l e room_1 s m #[(.long q0), (.int p1), (.int p2), (.int p3), (.int p4)] below meth c TJ10 [] 1 26) (eJ10 : TJ10.heap = hJ10) (EXJ10 : Ext h0 hJ10) (szJ10 : h0.size ≤ hJ10.size) (to : Int32) (g4 : Int32 → Value) (VJ10_b4 : Ary Z hJ10 b4 k4 .byte (26 : Int32) g4) (hj166 : own_rel g4 to (if ap = 0 then (q0 &&& (9223372036854775807 : Int64)).toInt.toNat else 10 * (q0 &&& (9223372036854775807 : Int64)).toInt.toNat + (((p1.toUInt32 >>> ((5 : Int32) &&& 31).toUInt32).toInt32 % (10 : Int32))).toInt.toNat)), EKit.Ends p l e room_1 s m #[(.long q0), (.int p1), (.int p2), (.int p3), (.int p4)] below meth c room_1.cells room_1.slots (fun v h L => v = some (.int (1 : Int32)) ∧ Fr h0.size L) TJ10 (mkF m 166 #[.val (.long q0), .second, .val (.int p1), .val (.int p2), .val (.int p3), .val (.int p4), .val (.long (q0 &&& (9223372036854775807 : Int64))), .second, .val (.int (p1 &&& (3 : Int32))), .val (.int ap), .val (.int co), .val (.int em), .val (.int (((p1.toUInt32 >>> ((5 : Int32) &&& 31).toUInt32).toInt32) % (10 : Int32))), .val (.int (p2.toInt8.toInt32)), .val (.int ((p2 >>> ((8 : Int32) &&& 31)).toInt8.toInt32)), .val (.int ((p2 >>> ((16 : Int32) &&& 31)).toInt8.toInt32)), .val (.ref b4), .val (.int to), .unset, .unset, .unset] []) := by
                intro TJ10 hJ10 XJ10 eJ10 EXJ10 szJ10 to g4 VJ10_b4 hj166
                refine EKit.aload XJ10 hx rfl rfl (hb hby at_166) (q := 168) rfl ?_
                refine EKit.iload XJ10 hx rfl (hb hby at_168) (q := 170) rfl ?_
                refine EKit.iload XJ10 hx rfl (hb hby at_170) (q := 172) rfl ?_
                refine EKit.bastoreB XJ10 hx hZ eJ10 VJ10_b4 (own_tb to hj166.1 hj166.2.1).1 (own_tb to hj166.1 hj166.2.1).2 (hb hby at_172) (q := 173) rfl ?_
                intro T11 h11 X11 e11 W11 V11
                have X11 := Stand.forget X11 (fun y hy => by cases List.mem_singleton.mp hy; rw [hs0]; exact gn_b4)
                have sz11 : h0.size ≤ h11.size := Nat.le_trans szJ10 (Keep.of_wr W11).1
                have EX11 := EKit.Ext_wr EXJ10 W11 gn_b4
                refine EKit.iload X11 hx rfl (hb hby at_173) (q := 175) rfl ?_
                by_cases h175 : em = (0 : Int32)
                · skip
                  refine EKit.ifYes X11 hx (EKit.c_t (teq h175).1) (hb hby at_175) (by decide) (q := 204) (by decide) ?_
                  refine EKit.iload X11 hx rfl (hb hby at_204) (q := 206) rfl ?_
                  refine EKit.bipush X11 hx (v := (48 : Int32)) rfl (hb hby at_206) (q := 208) rfl ?_
                  have J223_12 : ∀ (TJ12 : State) (XJ12 : Stand p l e room_1 s m #[(.long q0), (.int p1), (.int p2), (.int p3), (.int p4)] below meth c TJ12 [] 1 26) (eJ12 : TJ12.heap = h11) (bd : Int32) (hj223 : bd = 0 → (((p2 >>> ((16 : Int32) &&& 31)).toInt8.toInt32) < 48 ∨ 57 < ((p2 >>> ((16 : Int32) &&& 31)).toInt8.toInt32))), EKit.Ends p l e room_1 s m #[(.long q0), (.int p1), (.int p2), (.int p3), (.int p4)] below meth c room_1.cells room_1.slots (fun v h L => v = some (.int (1 : Int32)) ∧ Fr h0.size L) TJ12 (mkF m 223 #[.val (.long q0), .second, .val (.int p1), .val (.int p2), .val (.int p3), .val (.int p4), .val (.long (q0 &&& (9223372036854775807 : Int64))), .second, .val (.int (p1 &&& (3 : Int32))), .val (.int ap), .val (.int co), .val (.int em), .val (.int (((p1.toUInt32 >>> ((5 : Int32) &&& 31).toUInt32).toInt32) % (10 : Int32))), .val (.int (p2.toInt8.toInt32)), .val (.int ((p2 >>> ((8 : Int32) &&& 31)).toInt8.toInt32)), .val (.int ((p2 >>> ((16 : Int32) &&& 31)).toInt8.toInt32)), .val (.ref b4), .val (.int to), .unset, .unset, .unset] [(.int bd)]) := by
                    intro TJ12 XJ12 eJ12 bd hj223
                    refine EKit.istore XJ12 hx (l' := #[.val (.long q0), .second, .val (.int p1), .val (.int p2), .val (.int p3), .val (.int p4), .val (.long (q0 &&& (9223372036854775807 : Int64))), .second, .val (.int (p1 &&& (3 : Int32))), .val (.int ap), .val (.int co), .val (.int em), .val (.int (((p1.toUInt32 >>> ((5 : Int32) &&& 31).toUInt32).toInt32) % (10 : Int32))), .val (.int (p2.toInt8.toInt32)), .val (.int ((p2 >>> ((8 : Int32) &&& 31)).toInt8.toInt32)), .val (.int ((p2 >>> ((16 : Int32) &&& 31)).toInt8.toInt32)), .val (.ref b4), .val (.int to), .val (.int bd), .unset, .unset]) rfl (hb hby at_223) (q := 225) rfl ?_
                    refine EKit.iload XJ12 hx rfl (hb hby at_225) (q := 227) rfl ?_
                    have J309_13 : ∀ (TJ13 : State) (hJ13 : Heap) (XJ13 : Stand p l e room_1 s m #[(.long q0), (.int p1), (.int p2), (.int p3), (.int p4)] below meth c TJ13 [] 1 26) (eJ13 : TJ13.heap = hJ13) (EXJ13 : Ext h0 hJ13) (szJ13 : h0.size ≤ hJ13.size) (ex : Int64) (g5 : Int32 → Value) (VJ13_b4 : Ary Z hJ13 b4 k4 .byte (26 : Int32) g5) (hj309 : own_fin g5 to ex), EKit.Ends p l e room_1 s m #[(.long q0), (.int p1), (.int p2), (.int p3), (.int p4)] below meth c room_1.cells room_1.slots (fun v h L => v = some (.int (1 : Int32)) ∧ Fr h0.size L) TJ13 (mkF m 309 #[.val (.long q0), .second, .val (.int p1), .val (.int p2), .val (.int p3), .val (.int p4), .val (.long (q0 &&& (9223372036854775807 : Int64))), .second, .val (.int (p1 &&& (3 : Int32))), .val (.int ap), .val (.int co), .val (.int em), .val (.int (((p1.toUInt32 >>> ((5 : Int32) &&& 31).toUInt32).toInt32) % (10 : Int32))), .val (.int (p2.toInt8.toInt32)), .val (.int ((p2 >>> ((8 : Int32) &&& 31)).toInt8.toInt32)), .val (.int ((p2 >>> ((16 : Int32) &&& 31)).toInt8.toInt32)), .val (.ref b4), .val (.int to), .val (.int bd), .val (.long ex), .second] []) := by
                      intro TJ13 hJ13 XJ13 eJ13 EXJ13 szJ13 ex g5 VJ13_b4 hj309
                      refine EKit.aload XJ13 hx rfl rfl (hb hby at_309) (q := 311) rfl ?_
                      refine EKit.iconst XJ13 hx (v := (1 : Int32)) rfl (hb hby at_311) (q := 312) rfl ?_
                      refine EKit.iload XJ13 hx rfl (hb hby at_312) (q := 314) rfl ?_
                      refine EKit.callS XJ13 hx hZ hown eJ13 (y := (⟨"com/example/mirrorgauge/mirrorgauge/message/Decimal", "read", "([BII)J"⟩ : MethodName)) (hw _ (List.mem_of_getElem? (i := 13) rfl)) (hw _ (List.mem_of_getElem? (i := 14) rfl)) (hw _ (List.mem_of_getElem? (i := 4) rfl)) (hw _ (List.mem_of_getElem? (i := 15) rfl)) (by decide) (argsL := [(.ref b4), (.int (1 : Int32)), (.int to)]) (own_read l Z a0 hw b4 hJ13 to ex g5 k4 VJ13_b4 hj309) (rest := []) (by rw [hml]; rfl) pd___BII_J rfl (W := 0) (Nat.le_of_eq rfl) (by decide) (by decide) (by decide) (by decide) rfl (hb hby at_314) (q := 317) rfl ?_
                      intro T14 v14 L14 X14 hQ14
                      obtain ⟨X14, e14, ev14⟩ := EKit.pureK X14 hQ14
                      subst ev14
                      show EKit.Ends p l e room_1 s m #[(.long q0), (.int p1), (.int p2), (.int p3), (.int p4)] below meth c room_1.cells room_1.slots (fun v h L => v = some (.int (1 : Int32)) ∧ Fr h0.size L) T14 (mkF m 317 #[.val (.long q0), .second, .val (.int p1), .val (.int p2), .val (.int p3), .val (.int p4), .val (.long (q0 &&& (9223372036854775807 : Int64))), .second, .val (.int (p1 &&& (3 : Int32))), .val (.int ap), .val (.int co), .val (.int em), .val (.int (((p1.toUInt32 >>> ((5 : Int32) &&& 31).toUInt32).toInt32) % (10 : Int32))), .val (.int (p2.toInt8.toInt32)), .val (.int ((p2 >>> ((8 : Int32) &&& 31)).toInt8.toInt32)), .val (.int ((p2 >>> ((16 : Int32) &&& 31)).toInt8.toInt32)), .val (.ref b4), .val (.int to), .val (.int bd), .val (.long ex), .second] [(.long ex)])
                      refine EKit.lload X14 hx rfl (hb hby at_317) (q := 319) rfl ?_
                      refine EKit.lcmp X14 hx  (hb hby at_319) (q := 320) rfl ?_
                      have h320 : ex = ex := rfl
                      refine EKit.ifNo X14 hx (EKit.c_t (teq (EKit.e_t h320)).2) (hb hby at_320) (q := 323) rfl ?_
                      refine EKit.iconst X14 hx (v := (1 : Int32)) rfl (hb hby at_323) (q := 324) rfl ?_
                      refine EKit.goto X14 hx (hb hby at_324) (by decide) (q := 328) (by decide) ?_
                      exact EKit.retZ X14 hx hret (by simp) (hb hby at_328) (⟨rfl, Fr.nil _⟩) (by decide) (by decide)
                    by_cases h227 : co = (0 : Int32)
                    · skip
                      refine EKit.ifYes XJ12 hx (EKit.c_t (teq h227).1) (hb hby at_227) (by decide) (q := 260) (by decide) ?_
                      refine EKit.iload XJ12 hx rfl (hb hby at_260) (q := 262) rfl ?_
                      by_cases h262 : ap = (0 : Int32)
                      · skip
                        refine EKit.ifNo XJ12 hx (EKit.c_t (teq h262).2) (hb hby at_262) (q := 265) rfl ?_
                        refine EKit.lload XJ12 hx rfl (hb hby at_265) (q := 267) rfl ?_
                        refine EKit.lstore XJ12 hx (l' := #[.val (.long q0), .second, .val (.int p1), .val (.int p2), .val (.int p3), .val (.int p4), .val (.long (q0 &&& (9223372036854775807 : Int64))), .second, .val (.int (p1 &&& (3 : Int32))), .val (.int ap), .val (.int co), .val (.int em), .val (.int (((p1.toUInt32 >>> ((5 : Int32) &&& 31).toUInt32).toInt32) % (10 : Int32))), .val (.int (p2.toInt8.toInt32)), .val (.int ((p2 >>> ((8 : Int32) &&& 31)).toInt8.toInt32)), .val (.int ((p2 >>> ((16 : Int32) &&& 31)).toInt8.toInt32)), .val (.ref b4), .val (.int to), .val (.int bd), .val (.long (q0 &&& (9223372036854775807 : Int64))), .second]) rfl (hb hby at_267) (q := 269) rfl ?_
                        refine EKit.goto XJ12 hx (hb hby at_269) (by decide) (q := 309) (by decide) ?_
                        exact J309_13 TJ12 _ XJ12 eJ12 EX11 sz11 (q0 &&& (9223372036854775807 : Int64)) _ V11 (own_finG _ to _ _ (own_aft g4 to _ _ hj166) (by rw [if_pos h262]; exact own_e1 _ (own_qrng q0)))
                      · skip
                        refine EKit.ifYes XJ12 hx (EKit.c_t (feq h262).2) (hb hby at_262) (by decide) (q := 272) (by decide) ?_
                        refine EKit.lload XJ12 hx rfl (hb hby at_272) (q := 274) rfl ?_
                        refine EKit.ldc2Long XJ12 hx hZ hown (hw _ (List.mem_of_getElem? (i := 0) rfl)) (hb hby at_274) (q := 277) rfl ?_
                        refine EKit.iload XJ12 hx rfl (hb hby at_277) (q := 279) rfl ?_
                        refine EKit.i2l XJ12 hx  (hb hby at_279) (q := 280) rfl ?_
                        refine EKit.lsub XJ12 hx  (hb hby at_280) (q := 281) rfl ?_
                        refine EKit.ldc2Long XJ12 hx hZ hown (hw _ (List.mem_of_getElem? (i := 19) rfl)) (hb hby at_281) (q := 284) rfl ?_
                        refine EKit.ldiv XJ12 hx (by decide) (hb hby at_284) (q := 285) rfl ?_
                        refine EKit.lcmp XJ12 hx  (hb hby at_285) (q := 286) rfl ?_
                        by_cases h286 : (((9223372036854775807 : Int64) - ((((p1.toUInt32 >>> ((5 : Int32) &&& 31).toUInt32).toInt32) % (10 : Int32)).toInt64)) / (10 : Int64)) < (q0 &&& (9223372036854775807 : Int64))
                        · skip
                          refine EKit.ifYes XJ12 hx (EKit.c_t (tlt (EKit.g_t h286)).2.2.1) (hb hby at_286) (by decide) (q := 304) (by decide) ?_
                          refine EKit.ldc2Long XJ12 hx hZ hown (hw _ (List.mem_of_getElem? (i := 17) rfl)) (hb hby at_304) (q := 307) rfl ?_
                          refine EKit.lstore XJ12 hx (l' := #[.val (.long q0), .second, .val (.int p1), .val (.int p2), .val (.int p3), .val (.int p4), .val (.long (q0 &&& (9223372036854775807 : Int64))), .second, .val (.int (p1 &&& (3 : Int32))), .val (.int ap), .val (.int co), .val (.int em), .val (.int (((p1.toUInt32 >>> ((5 : Int32) &&& 31).toUInt32).toInt32) % (10 : Int32))), .val (.int (p2.toInt8.toInt32)), .val (.int ((p2 >>> ((8 : Int32) &&& 31)).toInt8.toInt32)), .val (.int ((p2 >>> ((16 : Int32) &&& 31)).toInt8.toInt32)), .val (.ref b4), .val (.int to), .val (.int bd), .val (.long (-1 : Int64)), .second]) rfl (hb hby at_307) (q := 309) rfl ?_
                          exact J309_13 TJ12 _ XJ12 eJ12 EX11 sz11 (-1 : Int64) _ V11 (own_finG _ to _ _ (own_aft g4 to _ _ hj166) (by rw [if_neg h262]; exact own_e3 _ _ (own_qrng q0) (own_drng p1).1 (own_drng p1).2 h286))
                        · skip
                          refine EKit.ifNo XJ12 hx (EKit.c_t (flt (EKit.g_f h286)).2.2.1) (hb hby at_286) (q := 289) rfl ?_
                          refine EKit.lload XJ12 hx rfl (hb hby at_289) (q := 291) rfl ?_
                          refine EKit.ldc2Long XJ12 hx hZ hown (hw _ (List.mem_of_getElem? (i := 19) rfl)) (hb hby at_291) (q := 294) rfl ?_
                          refine EKit.lmul XJ12 hx  (hb hby at_294) (q := 295) rfl ?_
                          refine EKit.iload XJ12 hx rfl (hb hby at_295) (q := 297) rfl ?_
                          refine EKit.i2l XJ12 hx  (hb hby at_297) (q := 298) rfl ?_
                          refine EKit.ladd XJ12 hx  (hb hby at_298) (q := 299) rfl ?_
                          refine EKit.lstore XJ12 hx (l' := #[.val (.long q0), .second, .val (.int p1), .val (.int p2), .val (.int p3), .val (.int p4), .val (.long (q0 &&& (9223372036854775807 : Int64))), .second, .val (.int (p1 &&& (3 : Int32))), .val (.int ap), .val (.int co), .val (.int em), .val (.int (((p1.toUInt32 >>> ((5 : Int32) &&& 31).toUInt32).toInt32) % (10 : Int32))), .val (.int (p2.toInt8.toInt32)), .val (.int ((p2 >>> ((8 : Int32) &&& 31)).toInt8.toInt32)), .val (.int ((p2 >>> ((16 : Int32) &&& 31)).toInt8.toInt32)), .val (.ref b4), .val (.int to), .val (.int bd), .val (.long (((q0 &&& (9223372036854775807 : Int64)) * (10 : Int64)) + ((((p1.toUInt32 >>> ((5 : Int32) &&& 31).toUInt32).toInt32) % (10 : Int32)).toInt64))), .second]) rfl (hb hby at_299) (q := 301) rfl ?_
                          refine EKit.goto XJ12 hx (hb hby at_301) (by decide) (q := 309) (by decide) ?_
                          exact J309_13 TJ12 _ XJ12 eJ12 EX11 sz11 (((q0 &&& (9223372036854775807 : Int64)) * (10 : Int64)) + ((((p1.toUInt32 >>> ((5 : Int32) &&& 31).toUInt32).toInt32) % (10 : Int32)).toInt64)) _ V11 (own_finG _ to _ _ (own_aft g4 to _ _ hj166) (by rw [if_neg h262]; exact own_e2 _ _ (own_qrng q0) (own_drng p1).1 (own_drng p1).2 h286))
                    · skip
                      refine EKit.ifNo XJ12 hx (EKit.c_t (feq h227).1) (hb hby at_227) (q := 230) rfl ?_
                      refine EKit.iload XJ12 hx rfl (hb hby at_230) (q := 232) rfl ?_
                      by_cases h232 : bd = (0 : Int32)
                      · skip
                        refine EKit.ifNo XJ12 hx (EKit.c_t (teq h232).2) (hb hby at_232) (q := 235) rfl ?_
                        refine EKit.aload XJ12 hx rfl rfl (hb hby at_235) (q := 237) rfl ?_
                        refine EKit.iconst XJ12 hx (v := (1 : Int32)) rfl (hb hby at_237) (q := 238) rfl ?_
                        refine EKit.iload XJ12 hx rfl (hb hby at_238) (q := 240) rfl ?_
                        refine EKit.ldcInt XJ12 hx hZ hown (hw _ (List.mem_of_getElem? (i := 16) rfl)) (hb hby at_240) (q := 242) rfl ?_
                        refine EKit.iand XJ12 hx  (hb hby at_242) (q := 243) rfl ?_
                        refine EKit.iload XJ12 hx rfl (hb hby at_243) (q := 245) rfl ?_
                        refine EKit.iconst XJ12 hx (v := (1 : Int32)) rfl (hb hby at_245) (q := 246) rfl ?_
                        refine EKit.isub XJ12 hx  (hb hby at_246) (q := 247) rfl ?_
                        refine EKit.irem XJ12 hx ((own_ib p3 to hj166.1 hj166.2.1).1) (hb hby at_247) (q := 248) rfl ?_
                        refine EKit.iadd XJ12 hx  (hb hby at_248) (q := 249) rfl ?_
                        refine EKit.iload XJ12 hx rfl (hb hby at_249) (q := 251) rfl ?_
                        refine EKit.bastoreB XJ12 hx hZ eJ12 V11 (own_ib p3 to hj166.1 hj166.2.1).2.2.2.1 (own_ib p3 to hj166.1 hj166.2.1).2.2.2.2 (hb hby at_251) (q := 252) rfl ?_
                        intro T15 h15 X15 e15 W15 V15
                        have X15 := Stand.forget X15 (fun y hy => by cases List.mem_singleton.mp hy; rw [hs0]; exact gn_b4)
                        have sz15 : h0.size ≤ h15.size := Nat.le_trans sz11 (Keep.of_wr W15).1
                        have EX15 := EKit.Ext_wr EX11 W15 gn_b4
                        refine EKit.ldc2Long X15 hx hZ hown (hw _ (List.mem_of_getElem? (i := 17) rfl)) (hb hby at_252) (q := 255) rfl ?_
                        refine EKit.lstore X15 hx (l' := #[.val (.long q0), .second, .val (.int p1), .val (.int p2), .val (.int p3), .val (.int p4), .val (.long (q0 &&& (9223372036854775807 : Int64))), .second, .val (.int (p1 &&& (3 : Int32))), .val (.int ap), .val (.int co), .val (.int em), .val (.int (((p1.toUInt32 >>> ((5 : Int32) &&& 31).toUInt32).toInt32) % (10 : Int32))), .val (.int (p2.toInt8.toInt32)), .val (.int ((p2 >>> ((8 : Int32) &&& 31)).toInt8.toInt32)), .val (.int ((p2 >>> ((16 : Int32) &&& 31)).toInt8.toInt32)), .val (.ref b4), .val (.int to), .val (.int bd), .val (.long (-1 : Int64)), .second]) rfl (hb hby at_255) (q := 257) rfl ?_
                        refine EKit.goto X15 hx (hb hby at_257) (by decide) (q := 309) (by decide) ?_
                        exact J309_13 T15 _ X15 e15 EX15 sz15 (-1 : Int64) _ V15 (own_finB _ to _ _ _ (own_aft g4 to _ _ hj166) (by rw [own_nb]; exact hj223 h232) (own_ib p3 to hj166.1 hj166.2.1).2.1 (own_ib p3 to hj166.1 hj166.2.1).2.2.1)
                      · skip
                        refine EKit.ifYes XJ12 hx (EKit.c_t (feq h232).2) (hb hby at_232) (by decide) (q := 260) (by decide) ?_
                        refine EKit.iload XJ12 hx rfl (hb hby at_260) (q := 262) rfl ?_
                        by_cases h262 : ap = (0 : Int32)
                        · skip
                          refine EKit.ifNo XJ12 hx (EKit.c_t (teq h262).2) (hb hby at_262) (q := 265) rfl ?_
                          refine EKit.lload XJ12 hx rfl (hb hby at_265) (q := 267) rfl ?_
                          refine EKit.lstore XJ12 hx (l' := #[.val (.long q0), .second, .val (.int p1), .val (.int p2), .val (.int p3), .val (.int p4), .val (.long (q0 &&& (9223372036854775807 : Int64))), .second, .val (.int (p1 &&& (3 : Int32))), .val (.int ap), .val (.int co), .val (.int em), .val (.int (((p1.toUInt32 >>> ((5 : Int32) &&& 31).toUInt32).toInt32) % (10 : Int32))), .val (.int (p2.toInt8.toInt32)), .val (.int ((p2 >>> ((8 : Int32) &&& 31)).toInt8.toInt32)), .val (.int ((p2 >>> ((16 : Int32) &&& 31)).toInt8.toInt32)), .val (.ref b4), .val (.int to), .val (.int bd), .val (.long (q0 &&& (9223372036854775807 : Int64))), .second]) rfl (hb hby at_267) (q := 269) rfl ?_
                          refine EKit.goto XJ12 hx (hb hby at_269) (by decide) (q := 309) (by decide) ?_
                          exact J309_13 TJ12 _ XJ12 eJ12 EX11 sz11 (q0 &&& (9223372036854775807 : Int64)) _ V11 (own_finG _ to _ _ (own_aft g4 to _ _ hj166) (by rw [if_pos h262]; exact own_e1 _ (own_qrng q0)))
                        · skip
                          refine EKit.ifYes XJ12 hx (EKit.c_t (feq h262).2) (hb hby at_262) (by decide) (q := 272) (by decide) ?_
                          refine EKit.lload XJ12 hx rfl (hb hby at_272) (q := 274) rfl ?_
                          refine EKit.ldc2Long XJ12 hx hZ hown (hw _ (List.mem_of_getElem? (i := 0) rfl)) (hb hby at_274) (q := 277) rfl ?_
                          refine EKit.iload XJ12 hx rfl (hb hby at_277) (q := 279) rfl ?_
                          refine EKit.i2l XJ12 hx  (hb hby at_279) (q := 280) rfl ?_
                          refine EKit.lsub XJ12 hx  (hb hby at_280) (q := 281) rfl ?_
                          refine EKit.ldc2Long XJ12 hx hZ hown (hw _ (List.mem_of_getElem? (i := 19) rfl)) (hb hby at_281) (q := 284) rfl ?_
                          refine EKit.ldiv XJ12 hx (by decide) (hb hby at_284) (q := 285) rfl ?_
                          refine EKit.lcmp XJ12 hx  (hb hby at_285) (q := 286) rfl ?_
                          by_cases h286 : (((9223372036854775807 : Int64) - ((((p1.toUInt32 >>> ((5 : Int32) &&& 31).toUInt32).toInt32) % (10 : Int32)).toInt64)) / (10 : Int64)) < (q0 &&& (9223372036854775807 : Int64))
                          · skip
                            refine EKit.ifYes XJ12 hx (EKit.c_t (tlt (EKit.g_t h286)).2.2.1) (hb hby at_286) (by decide) (q := 304) (by decide) ?_
                            refine EKit.ldc2Long XJ12 hx hZ hown (hw _ (List.mem_of_getElem? (i := 17) rfl)) (hb hby at_304) (q := 307) rfl ?_
                            refine EKit.lstore XJ12 hx (l' := #[.val (.long q0), .second, .val (.int p1), .val (.int p2), .val (.int p3), .val (.int p4), .val (.long (q0 &&& (9223372036854775807 : Int64))), .second, .val (.int (p1 &&& (3 : Int32))), .val (.int ap), .val (.int co), .val (.int em), .val (.int (((p1.toUInt32 >>> ((5 : Int32) &&& 31).toUInt32).toInt32) % (10 : Int32))), .val (.int (p2.toInt8.toInt32)), .val (.int ((p2 >>> ((8 : Int32) &&& 31)).toInt8.toInt32)), .val (.int ((p2 >>> ((16 : Int32) &&& 31)).toInt8.toInt32)), .val (.ref b4), .val (.int to), .val (.int bd), .val (.long (-1 : Int64)), .second]) rfl (hb hby at_307) (q := 309) rfl ?_
                            exact J309_13 TJ12 _ XJ12 eJ12 EX11 sz11 (-1 : Int64) _ V11 (own_finG _ to _ _ (own_aft g4 to _ _ hj166) (by rw [if_neg h262]; exact own_e3 _ _ (own_qrng q0) (own_drng p1).1 (own_drng p1).2 h286))
                          · skip
                            refine EKit.ifNo XJ12 hx (EKit.c_t (flt (EKit.g_f h286)).2.2.1) (hb hby at_286) (q := 289) rfl ?_
                            refine EKit.lload XJ12 hx rfl (hb hby at_289) (q := 291) rfl ?_
                            refine EKit.ldc2Long XJ12 hx hZ hown (hw _ (List.mem_of_getElem? (i := 19) rfl)) (hb hby at_291) (q := 294) rfl ?_
                            refine EKit.lmul XJ12 hx  (hb hby at_294) (q := 295) rfl ?_
                            refine EKit.iload XJ12 hx rfl (hb hby at_295) (q := 297) rfl ?_
                            refine EKit.i2l XJ12 hx  (hb hby at_297) (q := 298) rfl ?_
                            refine EKit.ladd XJ12 hx  (hb hby at_298) (q := 299) rfl ?_
                            refine EKit.lstore XJ12 hx (l' := #[.val (.long q0), .second, .val (.int p1), .val (.int p2), .val (.int p3), .val (.int p4), .val (.long (q0 &&& (9223372036854775807 : Int64))), .second, .val (.int (p1 &&& (3 : Int32))), .val (.int ap), .val (.int co), .val (.int em), .val (.int (((p1.toUInt32 >>> ((5 : Int32) &&& 31).toUInt32).toInt32) % (10 : Int32))), .val (.int (p2.toInt8.toInt32)), .val (.int ((p2 >>> ((8 : Int32) &&& 31)).toInt8.toInt32)), .val (.int ((p2 >>> ((16 : Int32) &&& 31)).toInt8.toInt32)), .val (.ref b4), .val (.int to), .val (.int bd), .val (.long (((q0 &&& (9223372036854775807 : Int64)) * (10 : Int64)) + ((((p1.toUInt32 >>> ((5 : Int32) &&& 31).toUInt32).toInt32) % (10 : Int32)).toInt64))), .second]) rfl (hb hby at_299) (q := 301) rfl ?_
                            refine EKit.goto XJ12 hx (hb hby at_301) (by decide) (q := 309) (by decide) ?_
                            exact J309_13 TJ12 _ XJ12 eJ12 EX11 sz11 (((q0 &&& (9223372036854775807 : Int64)) * (10 : Int64)) + ((((p1.toUInt32 >>> ((5 : Int32) &&& 31).toUInt32).toInt32) % (10 : Int32)).toInt64)) _ V11 (own_finG _ to _ _ (own_aft g4 to _ _ hj166) (by rw [if_neg h262]; exact own_e2 _ _ (own_qrng q0) (own_drng p1).1 (own_drng p1).2 h286))
                  by_cases h208 : ((p2 >>> ((16 : Int32) &&& 31)).toInt8.toInt32) < (48 : Int32)
                  · skip
                    refine EKit.icmpYes X11 hx ((tlt h208).1) (hb hby at_208) (by decide) (q := 222) (by decide) ?_
                    refine EKit.iconst X11 hx (v := (0 : Int32)) rfl (hb hby at_222) (q := 223) rfl ?_
                    exact J223_12 T11 X11 e11 (0 : Int32) (fun _ => Or.inl h208)
                  · skip
                    refine EKit.icmpNo X11 hx ((flt h208).1) (hb hby at_208) (q := 211) rfl ?_
                    refine EKit.iload X11 hx rfl (hb hby at_211) (q := 213) rfl ?_
                    refine EKit.bipush X11 hx (v := (57 : Int32)) rfl (hb hby at_213) (q := 215) rfl ?_
                    by_cases h215 : (57 : Int32) < ((p2 >>> ((16 : Int32) &&& 31)).toInt8.toInt32)
                    · skip
                      refine EKit.icmpYes X11 hx ((tlt h215).2.2.1) (hb hby at_215) (by decide) (q := 222) (by decide) ?_
                      refine EKit.iconst X11 hx (v := (0 : Int32)) rfl (hb hby at_222) (q := 223) rfl ?_
                      exact J223_12 T11 X11 e11 (0 : Int32) (fun _ => Or.inr h215)
                    · skip
                      refine EKit.icmpNo X11 hx ((flt h215).2.2.1) (hb hby at_215) (q := 218) rfl ?_
                      refine EKit.iconst X11 hx (v := (1 : Int32)) rfl (hb hby at_218) (q := 219) rfl ?_
                      refine EKit.goto X11 hx (hb hby at_219) (by decide) (q := 223) (by decide) ?_
                      exact J223_12 T11 X11 e11 (1 : Int32) (fun z => absurd z (by decide))
                · skip
                  refine EKit.ifNo X11 hx (EKit.c_t (feq h175).1) (hb hby at_175) (q := 178) rfl ?_
                  refine EKit.aload X11 hx rfl rfl (hb hby at_178) (q := 180) rfl ?_
                  refine EKit.iconst X11 hx (v := (1 : Int32)) rfl (hb hby at_180) (q := 181) rfl ?_
                  refine EKit.iconst X11 hx (v := (1 : Int32)) rfl (hb hby at_181) (q := 182) rfl ?_
                  refine EKit.iload X11 hx rfl (hb hby at_182) (q := 184) rfl ?_
                  refine EKit.ldcInt X11 hx hZ hown (hw _ (List.mem_of_getElem? (i := 16) rfl)) (hb hby at_184) (q := 186) rfl ?_
                  refine EKit.iand X11 hx  (hb hby at_186) (q := 187) rfl ?_
                  refine EKit.isub X11 hx  (hb hby at_187) (q := 188) rfl ?_
                  refine EKit.callS X11 hx hZ hown e11 (y := (⟨"com/example/mirrorgauge/mirrorgauge/message/Decimal", "read", "([BII)J"⟩ : MethodName)) (hw _ (List.mem_of_getElem? (i := 13) rfl)) (hw _ (List.mem_of_getElem? (i := 14) rfl)) (hw _ (List.mem_of_getElem? (i := 4) rfl)) (hw _ (List.mem_of_getElem? (i := 15) rfl)) (by decide) (argsL := [(.ref b4), (.int (1 : Int32)), (.int ((1 : Int32) - (p4 &&& (2147483647 : Int32))))]) (rmR0 l Z a0 hw [] b4 (1 : Int32) ((1 : Int32) - (p4 &&& (2147483647 : Int32))) h11 (own_neg p4)) (rest := []) (by rw [hml]; rfl) pd___BII_J rfl (W := 0) (Nat.le_of_eq rfl) (by decide) (by decide) (by decide) (by decide) rfl (hb hby at_188) (q := 191) rfl ?_
                  intro T16 v16 L16 X16 hQ16
                  obtain ⟨X16, e16, ev16⟩ := EKit.pureK X16 hQ16
                  subst ev16
                  show EKit.Ends p l e room_1 s m #[(.long q0), (.int p1), (.int p2), (.int p3), (.int p4)] below meth c room_1.cells room_1.slots (fun v h L => v = some (.int (1 : Int32)) ∧ Fr h0.size L) T16 (mkF m 191 #[.val (.long q0), .second, .val (.int p1), .val (.int p2), .val (.int p3), .val (.int p4), .val (.long (q0 &&& (9223372036854775807 : Int64))), .second, .val (.int (p1 &&& (3 : Int32))), .val (.int ap), .val (.int co), .val (.int em), .val (.int (((p1.toUInt32 >>> ((5 : Int32) &&& 31).toUInt32).toInt32) % (10 : Int32))), .val (.int (p2.toInt8.toInt32)), .val (.int ((p2 >>> ((8 : Int32) &&& 31)).toInt8.toInt32)), .val (.int ((p2 >>> ((16 : Int32) &&& 31)).toInt8.toInt32)), .val (.ref b4), .val (.int to), .unset, .unset, .unset] [(.long (-1 : Int64))])
                  refine EKit.ldc2Long X16 hx hZ hown (hw _ (List.mem_of_getElem? (i := 17) rfl)) (hb hby at_191) (q := 194) rfl ?_
                  refine EKit.lcmp X16 hx  (hb hby at_194) (q := 195) rfl ?_
                  have h195 : (-1 : Int64) = (-1 : Int64) := by decide
                  refine EKit.ifNo X16 hx (EKit.c_t (teq (EKit.e_t h195)).2) (hb hby at_195) (q := 198) rfl ?_
                  refine EKit.iconst X16 hx (v := (1 : Int32)) rfl (hb hby at_198) (q := 199) rfl ?_
                  refine EKit.goto X16 hx (hb hby at_199) (by decide) (q := 203) (by decide) ?_
                  exact EKit.retZ X16 hx hret (by simp) (hb hby at_203) (⟨rfl, Fr.nil _⟩) (by decide) (by decide)
              by_cases h146 : ap = (0 : Int32)
              · skip
                refine EKit.ifYes X9 hx (EKit.c_t (teq h146).1) (hb hby at_146) (by decide) (q := 166) (by decide) ?_
                exact J166_10 T9 _ X9 rfl EX9 sz9 (((1 : Int32) + (p1 &&& (3 : Int32))) + (own_len (q0 &&& (9223372036854775807 : Int64)))) _ V9 (by rw [if_pos h146]; exact hrel.1)
              · skip
                refine EKit.ifNo X9 hx (EKit.c_t (feq h146).1) (hb hby at_146) (q := 149) rfl ?_
                refine EKit.aload X9 hx rfl rfl (hb hby at_149) (q := 151) rfl ?_
                refine EKit.iload X9 hx rfl (hb hby at_151) (q := 153) rfl ?_
                refine EKit.bipush X9 hx (v := (48 : Int32)) rfl (hb hby at_153) (q := 155) rfl ?_
                refine EKit.iload X9 hx rfl (hb hby at_155) (q := 157) rfl ?_
                refine EKit.iadd X9 hx  (hb hby at_157) (q := 158) rfl ?_
                refine EKit.i2b X9 hx  (hb hby at_158) (q := 159) rfl ?_
                refine EKit.bastoreB X9 hx hZ rfl V9 (own_tb _ hrel.1.1 hrel.1.2.1).1 (own_tb _ hrel.1.1 hrel.1.2.1).2 (hb hby at_159) (q := 160) rfl ?_
                intro T17 h17 X17 e17 W17 V17
                have X17 := Stand.forget X17 (fun y hy => by cases List.mem_singleton.mp hy; rw [hs0]; exact gn_b4)
                have sz17 : h0.size ≤ h17.size := Nat.le_trans sz9 (Keep.of_wr W17).1
                have EX17 := EKit.Ext_wr EX9 W17 gn_b4
                refine EKit.iload X17 hx rfl (hb hby at_160) (q := 162) rfl ?_
                refine EKit.iconst X17 hx (v := (1 : Int32)) rfl (hb hby at_162) (q := 163) rfl ?_
                refine EKit.iadd X17 hx  (hb hby at_163) (q := 164) rfl ?_
                refine EKit.istore X17 hx (l' := #[.val (.long q0), .second, .val (.int p1), .val (.int p2), .val (.int p3), .val (.int p4), .val (.long (q0 &&& (9223372036854775807 : Int64))), .second, .val (.int (p1 &&& (3 : Int32))), .val (.int ap), .val (.int co), .val (.int em), .val (.int (((p1.toUInt32 >>> ((5 : Int32) &&& 31).toUInt32).toInt32) % (10 : Int32))), .val (.int (p2.toInt8.toInt32)), .val (.int ((p2 >>> ((8 : Int32) &&& 31)).toInt8.toInt32)), .val (.int ((p2 >>> ((16 : Int32) &&& 31)).toInt8.toInt32)), .val (.ref b4), .val (.int ((((1 : Int32) + (p1 &&& (3 : Int32))) + (own_len (q0 &&& (9223372036854775807 : Int64)))) + (1 : Int32))), .unset, .unset, .unset]) rfl (hb hby at_164) (q := 166) rfl ?_
                exact J166_10 T17 _ X17 e17 EX17 sz17 ((((1 : Int32) + (p1 &&& (3 : Int32))) + (own_len (q0 &&& (9223372036854775807 : Int64)))) + (1 : Int32)) _ V17 (by rw [if_neg h146]; exact own_app _ _ _ _ hrel.1 hrel.2.2.2 (own_drng p1).1 (own_drng p1).2)
            by_cases h122 : (p1 &&& (3 : Int32)) < (3 : Int32)
            · skip
              refine EKit.icmpYes XJ7 hx ((tlt h122).1) (hb hby at_122) (by decide) (q := 131) (by decide) ?_
              exact J131_8 TJ7 _ XJ7 eJ7 EXJ7 szJ7  _ VJ7_b4 (own_Pskip 2 _ _ hj119 (by have w := own_lt32.mp h122; rw [show (3 : Int32).toInt = 3 from rfl] at w; omega))
            · skip
              refine EKit.icmpNo XJ7 hx ((flt h122).1) (hb hby at_122) (q := 125) rfl ?_
              refine EKit.aload XJ7 hx rfl rfl (hb hby at_125) (q := 127) rfl ?_
              refine EKit.iconst XJ7 hx (v := (3 : Int32)) rfl (hb hby at_127) (q := 128) rfl ?_
              refine EKit.bipush XJ7 hx (v := (48 : Int32)) rfl (hb hby at_128) (q := 130) rfl ?_
              refine EKit.bastoreB XJ7 hx hZ eJ7 VJ7_b4 (by decide) (by decide) (hb hby at_130) (q := 131) rfl ?_
              intro T18 h18 X18 e18 W18 V18
              have X18 := Stand.forget X18 (fun y hy => by cases List.mem_singleton.mp hy; rw [hs0]; exact gn_b4)
              have sz18 : h0.size ≤ h18.size := Nat.le_trans szJ7 (Keep.of_wr W18).1
              have EX18 := EKit.Ext_wr EXJ7 W18 gn_b4
              exact J131_8 T18 _ X18 e18 EX18 sz18  _ V18 (own_Pset 2 _ (3 : Int32) _ hj119 (by decide))
          by_cases h110 : (p1 &&& (3 : Int32)) < (2 : Int32)
          · skip
            refine EKit.icmpYes XJ6 hx ((tlt h110).1) (hb hby at_110) (by decide) (q := 119) (by decide) ?_
            exact J119_7 TJ6 _ XJ6 eJ6 EXJ6 szJ6  _ VJ6_b4 (own_Pskip 1 _ _ hj107 (by have w := own_lt32.mp h110; rw [show (2 : Int32).toInt = 2 from rfl] at w; omega))
          · skip
            refine EKit.icmpNo XJ6 hx ((flt h110).1) (hb hby at_110) (q := 113) rfl ?_
            refine EKit.aload XJ6 hx rfl rfl (hb hby at_113) (q := 115) rfl ?_
            refine EKit.iconst XJ6 hx (v := (2 : Int32)) rfl (hb hby at_115) (q := 116) rfl ?_
            refine EKit.bipush XJ6 hx (v := (48 : Int32)) rfl (hb hby at_116) (q := 118) rfl ?_
            refine EKit.bastoreB XJ6 hx hZ eJ6 VJ6_b4 (by decide) (by decide) (hb hby at_118) (q := 119) rfl ?_
            intro T19 h19 X19 e19 W19 V19
            have X19 := Stand.forget X19 (fun y hy => by cases List.mem_singleton.mp hy; rw [hs0]; exact gn_b4)
            have sz19 : h0.size ≤ h19.size := Nat.le_trans szJ6 (Keep.of_wr W19).1
            have EX19 := EKit.Ext_wr EXJ6 W19 gn_b4
            exact J119_7 T19 _ X19 e19 EX19 sz19  _ V19 (own_Pset 1 _ (2 : Int32) _ hj107 (by decide))
        by_cases h98 : (p1 &&& (3 : Int32)) < (1 : Int32)
        · skip
          refine EKit.icmpYes X5 hx ((tlt h98).1) (hb hby at_98) (by decide) (q := 107) (by decide) ?_
          exact J107_6 T5 _ X5 e5 EX5 sz5  _ V5 (own_Pskip 0 _ _ (own_P0 _ _) (by have w := own_lt32.mp h98; rw [show (1 : Int32).toInt = 1 from rfl] at w; omega))
        · skip
          refine EKit.icmpNo X5 hx ((flt h98).1) (hb hby at_98) (q := 101) rfl ?_
          refine EKit.aload X5 hx rfl rfl (hb hby at_101) (q := 103) rfl ?_
          refine EKit.iconst X5 hx (v := (1 : Int32)) rfl (hb hby at_103) (q := 104) rfl ?_
          refine EKit.bipush X5 hx (v := (48 : Int32)) rfl (hb hby at_104) (q := 106) rfl ?_
          refine EKit.bastoreB X5 hx hZ e5 V5 (by decide) (by decide) (hb hby at_106) (q := 107) rfl ?_
          intro T20 h20 X20 e20 W20 V20
          have X20 := Stand.forget X20 (fun y hy => by cases List.mem_singleton.mp hy; rw [hs0]; exact gn_b4)
          have sz20 : h0.size ≤ h20.size := Nat.le_trans sz5 (Keep.of_wr W20).1
          have EX20 := EKit.Ext_wr EX5 W20 gn_b4
          exact J107_6 T20 _ X20 e20 EX20 sz20  _ V20 (own_Pset 0 _ (1 : Int32) _ (own_P0 _ _) (by decide))
      by_cases h47 : ((p1 >>> ((4 : Int32) &&& 31)) &&& (1 : Int32)) = (0 : Int32)
      · skip
        refine EKit.ifYes XJ2 hx (EKit.c_t (teq h47).1) (hb hby at_47) (by decide) (q := 54) (by decide) ?_
        refine EKit.iconst XJ2 hx (v := (0 : Int32)) rfl (hb hby at_54) (q := 55) rfl ?_
        exact J55_3 TJ2 XJ2 eJ2 (0 : Int32) (by simp)
      · skip
        refine EKit.ifNo XJ2 hx (EKit.c_t (feq h47).1) (hb hby at_47) (q := 50) rfl ?_
        refine EKit.iconst XJ2 hx (v := (1 : Int32)) rfl (hb hby at_50) (q := 51) rfl ?_
        refine EKit.goto XJ2 hx (hb hby at_51) (by decide) (q := 55) (by decide) ?_
        exact J55_3 TJ2 XJ2 eJ2 (1 : Int32) (by simp)
    by_cases h32 : ((p1 >>> ((3 : Int32) &&& 31)) &&& (1 : Int32)) = (0 : Int32)
    · skip
      refine EKit.ifYes XJ1 hx (EKit.c_t (teq h32).1) (hb hby at_32) (by decide) (q := 39) (by decide) ?_
      refine EKit.iconst XJ1 hx (v := (0 : Int32)) rfl (hb hby at_39) (q := 40) rfl ?_
      exact J40_2 TJ1 XJ1 eJ1 (0 : Int32) (by simp)
    · skip
      refine EKit.ifNo XJ1 hx (EKit.c_t (feq h32).1) (hb hby at_32) (q := 35) rfl ?_
      refine EKit.iconst XJ1 hx (v := (1 : Int32)) rfl (hb hby at_35) (q := 36) rfl ?_
      refine EKit.goto XJ1 hx (hb hby at_36) (by decide) (q := 40) (by decide) ?_
      exact J40_2 TJ1 XJ1 eJ1 (1 : Int32) (by simp)
  by_cases h17 : ((p1 >>> ((2 : Int32) &&& 31)) &&& (1 : Int32)) = (0 : Int32)
  · skip
    refine EKit.ifYes X0 hx (EKit.c_t (teq h17).1) (hb hby at_17) (by decide) (q := 24) (by decide) ?_
    refine EKit.iconst X0 hx (v := (0 : Int32)) rfl (hb hby at_24) (q := 25) rfl ?_
    exact J25_1 s₁ X0 e0 (0 : Int32) (by simp)
  · skip
    refine EKit.ifNo X0 hx (EKit.c_t (feq h17).1) (hb hby at_17) (q := 20) rfl ?_
    refine EKit.iconst X0 hx (v := (1 : Int32)) rfl (hb hby at_20) (q := 21) rfl ?_
    refine EKit.goto X0 hx (hb hby at_21) (by decide) (q := 25) (by decide) ?_
    exact J25_1 s₁ X0 e0 (1 : Int32) (by simp)
set_option maxRecDepth 65536 in
set_option maxHeartbeats 40000000 in
theorem comes_1 {Post : Tables → Env → Array Value → State → Outcome → State → Prop} (hpost : ∀ tb e args s v u, (limb_1_1.after args s (.returned v) u = true ∧ limb_1_2.after args s (.returned v) u = true ∧ True) → FrameEnd s (.returned v) u (Jvm.fieldLocs frame_1_writes args s ++ Jvm.arrayLocs frame_1_arrays args s ++ Jvm.staticLocs frame_1_statics s) 16 128 → Post tb e args s (.returned v) u) :
    ArmFor flags0 classFile x code maxLocals ret World_1 tables_1 room_1 Calls_1 rest_1 Pre_1 Post := by
  intro l hfl _ _ p e ha hc hk s m args below hf hA hF happ hP
  obtain ⟨hcalls, hrest, hpre⟩ := hP
  obtain ⟨-, -, -, hnamed, -, -, -, hat⟩ := (Spec.applies_iff hf).mp happ
  obtain ⟨hg, hn⟩ := and_e (Cond.before_iff.mp (show (Jvm.Cond.and given_1 narrow_1).before args s = true from hpre))
  obtain ⟨g4, g5⟩ := and_e hg
  obtain ⟨g6, g7⟩ := and_e g5
  obtain ⟨g8, g9⟩ := and_e g7
  obtain ⟨g10, g11⟩ := and_e g9
  obtain ⟨g12, g13⟩ := and_e g11
  obtain ⟨w0, w1, w2, w3, w4, rfl⟩ : ∃ w0 w1 w2 w3 w4 : Value, args = #[w0, w1, w2, w3, w4] := by
    have hs : args.size = 5 := by simpa [Cond.value, given_1] using g4
    obtain ⟨L⟩ := args
    match L, hs with
    | [w0, w1, w2, w3, w4], _ => exact ⟨w0, w1, w2, w3, w4, rfl⟩
  have hw := fun d (hd : d ∈ tables_1) => atoms_spec (ws := Jvm.Cond.code x code maxLocals ret :: tables_1) hat d (List.mem_cons_of_mem _ hd)
  obtain ⟨i0, ei0⟩ := isL_v g6
  obtain rfl : w0 = (.long i0) := Option.some.inj ei0
  obtain ⟨i1, ei1⟩ := is_v g8
  obtain rfl : w1 = (.int i1) := Option.some.inj ei1
  obtain ⟨i2, ei2⟩ := is_v g10
  obtain rfl : w2 = (.int i2) := Option.some.inj ei2
  obtain ⟨i3, ei3⟩ := is_v g12
  obtain rfl : w3 = (.int i3) := Option.some.inj ei3
  obtain ⟨i4, ei4⟩ := is_v g13
  obtain rfl : w4 = (.int i4) := Option.some.inj ei4
  obtain ⟨n1, n2⟩ := and_e hn
  obtain ⟨n3, n4⟩ := and_e n2
  obtain ⟨n5, n6⟩ := and_e n4
  obtain ⟨n7, n8⟩ := and_e n6
  obtain ⟨n9, n10⟩ := and_e n8
  obtain ⟨n11, n12⟩ := and_e n10
  obtain ⟨n13, n14⟩ := and_e n12
  obtain ⟨n15, n16⟩ := and_e n14
  obtain ⟨n17, n18⟩ := and_e n16
  obtain ⟨n19, n20⟩ := and_e n18
  obtain ⟨n21, n22⟩ := and_e n20
  obtain ⟨n23, n24⟩ := and_e n22
  obtain ⟨n25, n26⟩ := and_e n24
  obtain ⟨n27, n28⟩ := and_e n26
  obtain ⟨n29, n30⟩ := and_e n28
  obtain ⟨n31, n32⟩ := and_e n30
  obtain ⟨n33, n34⟩ := and_e n32
  obtain ⟨n35, n36⟩ := and_e n34
  obtain ⟨n37, n38⟩ := and_e n36
  obtain ⟨n39, n40⟩ := and_e n38
  obtain ⟨w_P, ev_P⟩ := arr_v n1
  obtain ⟨cl, A0⟩ := Arr.start ev_P n1
  have S_P : Sta s s.heap "com/example/mirrorgauge/mirrorgauge/message/Decimal" "POWERS" "[J" (.ref w_P) := Sta.start ev_P (Or.inr ⟨(hw _ (List.mem_of_getElem? (i := 4) rfl)), (hw _ (List.mem_of_getElem? (i := 10) rfl))⟩)
  obtain ⟨r2, r3⟩ := EKit.evalLen (EKit.evalEq n3 (Term.int_eval _)) ev_P A0
  have q0 : cl.slots[0]? = some (.long (own_pow 0)) := (elem_in (EKit.evalEq n5 (long_at _)) ev_P (Term.int_eval _) A0.1).2.trans (congrArg (fun z => some (Value.long z)) own_pow0.symm)
  have q1 : cl.slots[1]? = some (.long (own_pow 1)) := (elem_in (EKit.evalEq n7 (long_at _)) ev_P (Term.int_eval _) A0.1).2.trans (congrArg (fun z => some (Value.long z)) own_pow1.symm)
  have q2 : cl.slots[2]? = some (.long (own_pow 2)) := (elem_in (EKit.evalEq n9 (long_at _)) ev_P (Term.int_eval _) A0.1).2.trans (congrArg (fun z => some (Value.long z)) own_pow2.symm)
  have q3 : cl.slots[3]? = some (.long (own_pow 3)) := (elem_in (EKit.evalEq n11 (long_at _)) ev_P (Term.int_eval _) A0.1).2.trans (congrArg (fun z => some (Value.long z)) own_pow3.symm)
  have q4 : cl.slots[4]? = some (.long (own_pow 4)) := (elem_in (EKit.evalEq n13 (long_at _)) ev_P (Term.int_eval _) A0.1).2.trans (congrArg (fun z => some (Value.long z)) own_pow4.symm)
  have q5 : cl.slots[5]? = some (.long (own_pow 5)) := (elem_in (EKit.evalEq n15 (long_at _)) ev_P (Term.int_eval _) A0.1).2.trans (congrArg (fun z => some (Value.long z)) own_pow5.symm)
  have q6 : cl.slots[6]? = some (.long (own_pow 6)) := (elem_in (EKit.evalEq n17 (long_at _)) ev_P (Term.int_eval _) A0.1).2.trans (congrArg (fun z => some (Value.long z)) own_pow6.symm)
  have q7 : cl.slots[7]? = some (.long (own_pow 7)) := (elem_in (EKit.evalEq n19 (long_at _)) ev_P (Term.int_eval _) A0.1).2.trans (congrArg (fun z => some (Value.long z)) own_pow7.symm)
  have q8 : cl.slots[8]? = some (.long (own_pow 8)) := (elem_in (EKit.evalEq n21 (long_at _)) ev_P (Term.int_eval _) A0.1).2.trans (congrArg (fun z => some (Value.long z)) own_pow8.symm)
  have q9 : cl.slots[9]? = some (.long (own_pow 9)) := (elem_in (EKit.evalEq n23 (long_at _)) ev_P (Term.int_eval _) A0.1).2.trans (congrArg (fun z => some (Value.long z)) own_pow9.symm)
  have q10 : cl.slots[10]? = some (.long (own_pow 10)) := (elem_in (EKit.evalEq n25 (long_at _)) ev_P (Term.int_eval _) A0.1).2.trans (congrArg (fun z => some (Value.long z)) own_pow10.symm)
  have q11 : cl.slots[11]? = some (.long (own_pow 11)) := (elem_in (EKit.evalEq n27 (long_at _)) ev_P (Term.int_eval _) A0.1).2.trans (congrArg (fun z => some (Value.long z)) own_pow11.symm)
  have q12 : cl.slots[12]? = some (.long (own_pow 12)) := (elem_in (EKit.evalEq n29 (long_at _)) ev_P (Term.int_eval _) A0.1).2.trans (congrArg (fun z => some (Value.long z)) own_pow12.symm)
  have q13 : cl.slots[13]? = some (.long (own_pow 13)) := (elem_in (EKit.evalEq n31 (long_at _)) ev_P (Term.int_eval _) A0.1).2.trans (congrArg (fun z => some (Value.long z)) own_pow13.symm)
  have q14 : cl.slots[14]? = some (.long (own_pow 14)) := (elem_in (EKit.evalEq n33 (long_at _)) ev_P (Term.int_eval _) A0.1).2.trans (congrArg (fun z => some (Value.long z)) own_pow14.symm)
  have q15 : cl.slots[15]? = some (.long (own_pow 15)) := (elem_in (EKit.evalEq n35 (long_at _)) ev_P (Term.int_eval _) A0.1).2.trans (congrArg (fun z => some (Value.long z)) own_pow15.symm)
  have q16 : cl.slots[16]? = some (.long (own_pow 16)) := (elem_in (EKit.evalEq n37 (long_at _)) ev_P (Term.int_eval _) A0.1).2.trans (congrArg (fun z => some (Value.long z)) own_pow16.symm)
  have q17 : cl.slots[17]? = some (.long (own_pow 17)) := (elem_in (EKit.evalEq n39 (long_at _)) ev_P (Term.int_eval _) A0.1).2.trans (congrArg (fun z => some (Value.long z)) own_pow17.symm)
  have q18 : cl.slots[18]? = some (.long (own_pow 18)) := (elem_in (EKit.evalEq n40 (long_at _)) ev_P (Term.int_eval _) A0.1).2.trans (congrArg (fun z => some (Value.long z)) own_pow18.symm)
  have A_P : Ary s s.heap w_P cl.cls .long (19 : Int32) (fun j => .long (own_pow j)) := by
    refine Ary.start A0 r2 r3 fun i hi => ?_
    match i, hi with
    | 0, _ => exact q0
    | 1, _ => exact q1
    | 2, _ => exact q2
    | 3, _ => exact q3
    | 4, _ => exact q4
    | 5, _ => exact q5
    | 6, _ => exact q6
    | 7, _ => exact q7
    | 8, _ => exact q8
    | 9, _ => exact q9
    | 10, _ => exact q10
    | 11, _ => exact q11
    | 12, _ => exact q12
    | 13, _ => exact q13
    | 14, _ => exact q14
    | 15, _ => exact q15
    | 16, _ => exact q16
    | 17, _ => exact q17
    | 18, _ => exact q18
    | i + 19, hi => exact absurd hi (by simp [show (19 : Int32).toNatClampNeg = 19 from rfl])
  obtain ⟨n, o, h1, h2, h3, _, L, rfl, ⟨rfl, N⟩, hq⟩ := rm0 l s _ hw tables_1 i0 i1 i2 i3 i4 s.heap w_P cl.cls S_P A_P p e ha hc hk s m _ below hf ((Spec.applies_iff_loose hf).mp happ).1 ⟨rfl, State.Warmed39.refl s, rfl⟩ trivial
  refine ⟨n, _, h1, h2, h3, hpost _ _ _ _ _ _ ⟨Cond.after_iff.mpr rfl, Cond.after_iff.mpr (eq_i res_at (Term.int_eval (1)) rfl), trivial⟩ ⟨hq.1, hq.2.1, (hq.2.2.sift fun y hy => Or.inr (N y hy)).mono (by decide) (by decide)⟩⟩
theorem main_1_1 : Claimed_1_1 := comes_1 fun _ _ _ _ _ _ h hF => ⟨h.1, hF⟩
theorem main_1_2 : Claimed_1_2 := comes_1 fun _ _ _ _ _ _ h hF => ⟨h.2.1, hF⟩
end Jvm.Pilot.@@N@@
namespace Jvm.Pilot.@@N@@
open Jvm Jvm.ClassFile Sem Op Lib Jvm.Free Jvm.Stand Jvm.Pilot.@@N@@.Jvm.D
/-! MADE BY PROGRAM (witnessworld.py) out of the Statement's table words and the real class files: 11 classes; the members and pool entries that the words name. The judged class is class 1, her method 1. -/
namespace start1
open Jvm.ClassFile
def u (s : String) : CpInfo := .utf8 (stringToUtf16 s)
/-- a pool by its gaps: so many unusable entries, then the entry; so many at the end -/
def gap : Nat → List CpInfo → List CpInfo
  | 0, r => r
  | n + 1, r => .unusable :: gap n r
def poolList (es : List (Nat × CpInfo)) (last : Nat) : List CpInfo := es.foldr (fun e r => gap e.1 (e.2 :: r)) (gap last [])
def pool (es : List (Nat × CpInfo)) (last : Nat) : Array CpInfo := ⟨poolList es last⟩
def fileOf (pool : Array CpInfo) (this : Nat) (attrs : Array Attribute := #[]) (ms : Array MethodInfo := #[]) (fl : Nat := 33) (sup : Nat := 0) (ifs : Array Nat := #[]) (fds : Array FieldInfo := #[]) : ClassFile where
  minorVersion := 0
  majorVersion := 65
  constantPool := pool
  accessFlags := fl
  thisClass := this
  superClass := sup
  interfaces := ifs
  fields := fds
  methods := ms
  attributes := attrs
def plain (name : String) (sup : Option ClassId) : Class where
  name := name
  kind := .ordinary
  loader := none
  accessFlags := 33
  super := sup
  interfaces := #[]
  cf := none
  fields := #[]
  methods := #[]
  instanceTypes := #[]
  staticTypes := #[]
  resolved := #[]
  callSites := []
  init := .initialized
  statics := none
  mirror := none

def pool0 : Array CpInfo := pool [(5, u "<init>"), (0, u "()V"), (1, .class_ 10), (1, u "java/lang/Object")] 113

def k0m0 : Method := { name := "<init>", desc := "()V", sig := { parameters := [], returnType := none }, accessFlags := 1, code := none }
/-- java/lang/Object -/
def k0 : Class := { plain "java/lang/Object" none with
  accessFlags := 33
  interfaces := #[]
  cf := some (fileOf pool0 8 #[] #[{ accessFlags := 1, nameIndex := 5, descriptorIndex := 6, attributes := #[] }] 33 0 #[] #[])
  fields := #[]
  methods := #[k0m0]
  instanceTypes := #[]
  staticTypes := #[]
  resolved := Array.replicate 124 none
  statics := none }

def pool1 : Array CpInfo := pool [(2, .class_ 4), (1, u "java/lang/Object"), (0, u "<init>"), (0, u "()V"), (2, .long 9223372036854775807), (1, .methodref 12 13), (0, .class_ 14), (0, .nameAndType 15 16), (0, u "com/example/mirrorgauge/mirrorgauge/message/Decimal"), (0, u "put"), (0, u "([BIJ)I"), (0, .integer 2147483647), (0, .methodref 12 19), (0, .nameAndType 20 21), (0, u "read"), (0, u "([BII)J"), (0, .long 18446744073709551615), (1, .long 10), (1, .class_ 27), (0, u "com/example/mirrorgauge/mirrorgauge/message/DecimalReadPinLaw"), (2, u "law"), (0, u "(JIIII)Z")] 5

def k1m0 : Method := { name := "<init>", desc := "()V", sig := { parameters := [], returnType := none }, accessFlags := 1, code := none }
def k1c1 : Code := { maxStack := 6, maxLocals := 21, code := code, exceptionTable := #[], attributes := #[] }
def k1m1 : Method := { name := "law", desc := "(JIIII)Z", sig := { parameters := [.long, .int, .int, .int, .int], returnType := some .boolean }, accessFlags := 9, code := some k1c1 }
/-- com/example/mirrorgauge/mirrorgauge/message/DecimalReadPinLaw -/
def k1 : Class := { plain "com/example/mirrorgauge/mirrorgauge/message/DecimalReadPinLaw" (some 0) with
  accessFlags := 49
  interfaces := #[]
  cf := some (fileOf pool1 26 #[] #[{ accessFlags := 1, nameIndex := 5, descriptorIndex := 6, attributes := #[] }, { accessFlags := 9, nameIndex := 30, descriptorIndex := 31, attributes := #[] }] 49 2 #[] #[])
  fields := #[]
  methods := #[k1m0, k1m1]
  instanceTypes := #[]
  staticTypes := #[]
  resolved := Array.replicate 37 none
  statics := none }

def pool2 : Array CpInfo := pool [(4, .class_ 6), (1, u "java/lang/Object"), (0, u "<init>"), (0, u "()V"), (0, .fieldref 10 11), (0, .class_ 12), (0, .nameAndType 13 14), (0, u "com/example/mirrorgauge/mirrorgauge/message/Decimal"), (0, u "POWERS"), (0, u "[J"), (0, .methodref 10 16), (0, .nameAndType 17 18), (0, u "length"), (0, u "(J)I"), (0, .long 48), (1, .long 10), (3, u "put"), (0, u "([BIJ)I"), (0, .long 18446744073709551615), (1, .long 922337203685477580), (1, .long 7), (5, u "LARGEST_BEFORE_A_DIGIT"), (0, u "J"), (1, u "LARGEST_LAST_DIGIT"), (0, u "UNCHECKED_DIGITS"), (0, u "I"), (6, u "read"), (0, u "([BII)J")] 4

def k2m0 : Method := { name := "<init>", desc := "()V", sig := { parameters := [], returnType := none }, accessFlags := 2, code := none }
def k2c1 : Code := { maxStack := 4, maxLocals := 3, code := prog_49_method_2_code, exceptionTable := #[], attributes := #[] }
def k2m1 : Method := { name := "length", desc := "(J)I", sig := { parameters := [.long], returnType := some .int }, accessFlags := 9, code := some k2c1 }
def k2c2 : Code := { maxStack := 8, maxLocals := 8, code := prog_49_method_3_code, exceptionTable := #[], attributes := #[] }
def k2m2 : Method := { name := "put", desc := "([BIJ)I", sig := { parameters := [(.array .byte), .int, .long], returnType := some .int }, accessFlags := 9, code := some k2c2 }
def k2c3 : Code := { maxStack := 4, maxLocals := 7, code := prog_49_method_5_code, exceptionTable := #[], attributes := #[] }
def k2m3 : Method := { name := "read", desc := "([BII)J", sig := { parameters := [(.array .byte), .int, .int], returnType := some .long }, accessFlags := 9, code := some k2c3 }
/-- com/example/mirrorgauge/mirrorgauge/message/Decimal -/
def k2 : Class := { plain "com/example/mirrorgauge/mirrorgauge/message/Decimal" (some 0) with
  accessFlags := 49
  interfaces := #[]
  cf := some (fileOf pool2 10 #[] #[{ accessFlags := 2, nameIndex := 7, descriptorIndex := 8, attributes := #[] }, { accessFlags := 9, nameIndex := 17, descriptorIndex := 18, attributes := #[] }, { accessFlags := 9, nameIndex := 25, descriptorIndex := 26, attributes := #[] }, { accessFlags := 9, nameIndex := 49, descriptorIndex := 50, attributes := #[] }] 49 4 #[] #[{ accessFlags := 26, nameIndex := 13, descriptorIndex := 14, attributes := #[] }, { accessFlags := 26, nameIndex := 37, descriptorIndex := 38, attributes := #[] }, { accessFlags := 26, nameIndex := 40, descriptorIndex := 38, attributes := #[] }, { accessFlags := 26, nameIndex := 41, descriptorIndex := 42, attributes := #[] }])
  fields := #[{ name := "POWERS", type := (.array .long), accessFlags := 26, slot := 0, constantValue := 0 }, { name := "LARGEST_BEFORE_A_DIGIT", type := .long, accessFlags := 26, slot := 1, constantValue := 0 }, { name := "LARGEST_LAST_DIGIT", type := .long, accessFlags := 26, slot := 2, constantValue := 0 }, { name := "UNCHECKED_DIGITS", type := .int, accessFlags := 26, slot := 3, constantValue := 0 }]
  methods := #[k2m0, k2m1, k2m2, k2m3]
  instanceTypes := #[]
  staticTypes := #[(.array .long), .long, .long, .int]
  resolved := Array.replicate 55 none
  statics := some 0 }

def pool3 : Array CpInfo := pool [(1, u "java/lang/Cloneable"), (0, .class_ 1), (0, u "java/lang/Object"), (0, .class_ 3)] 3

/-- java/lang/Cloneable -/
def k3 : Class := { plain "java/lang/Cloneable" (some 0) with
  accessFlags := 1537
  interfaces := #[]
  cf := some (fileOf pool3 2 #[] #[] 1537 4 #[] #[])
  fields := #[]
  methods := #[]
  instanceTypes := #[]
  staticTypes := #[]
  resolved := Array.replicate 8 none
  statics := none }

def pool4 : Array CpInfo := pool [(1, u "java/io/Serializable"), (0, .class_ 1), (0, u "java/lang/Object"), (0, .class_ 3)] 3

/-- java/io/Serializable -/
def k4 : Class := { plain "java/io/Serializable" (some 0) with
  accessFlags := 1537
  interfaces := #[]
  cf := some (fileOf pool4 2 #[] #[] 1537 4 #[] #[])
  fields := #[]
  methods := #[]
  instanceTypes := #[]
  staticTypes := #[]
  resolved := Array.replicate 8 none
  statics := none }

/-- the primitive byte -/
def k5 : Class := { plain "byte" none with kind := .primitive 'B', accessFlags := 0x411 }
/-- [B -/
def k6 : Class := { plain "[B" (some 0) with kind := .array 5 .byte, interfaces := #[3, 4], accessFlags := 1041 }

/-- the primitive int -/
def k7 : Class := { plain "int" none with kind := .primitive 'I', accessFlags := 0x411 }
/-- [I -/
def k8 : Class := { plain "[I" (some 0) with kind := .array 7 .int, interfaces := #[3, 4], accessFlags := 1041 }

/-- the primitive long -/
def k9 : Class := { plain "long" none with kind := .primitive 'J', accessFlags := 0x411 }
/-- [J -/
def k10 : Class := { plain "[J" (some 0) with kind := .array 9 .long, interfaces := #[3, 4], accessFlags := 1041 }

def heap : Heap := #[{ cls := 2, slots := #[.ref 1, .long 0, .long 0, .int 0], vm := .statics 2 },
  { cls := 10, slots := #[.long 1, .long 10, .long 100, .long 1000, .long 10000, .long 100000, .long 1000000, .long 10000000, .long 100000000, .long 1000000000, .long 10000000000, .long 100000000000, .long 1000000000000, .long 10000000000000, .long 100000000000000, .long 1000000000000000, .long 10000000000000000, .long 100000000000000000, .long 1000000000000000000], vm := .none }]
def classes : Array Class := #[k0, k1, k2, k3, k4, k5, k6, k7, k8, k9, k10]
def interned : List (Array UInt16 × Addr) := []
def slotsUsed : Nat := 23
def theMethod : MethodId := ⟨1, 1⟩
def args0 : Array Value := #[.long 5, .int 1, .int 2, .int 3, .int 4]
def aboutOver (below : List Frame) : State where
  vm := { classes := classes, interned := interned.toArray }
  heap := heap
  slotsUsed := slotsUsed
  threads := #[{ frames := .invoking theMethod args0 :: below }]
def below0 : List Frame := [.native { method := ⟨0, 0⟩, args := #[] }]
def about1 : State := aboutOver below0
def p0 : Program := .bare "" "" ""
def e0 : Env := launch0.env 0 0 0
theorem w_frames : about1.frames = Frame.invoking theMethod args0 :: below0 := rfl
set_option maxRecDepth 65536 in
theorem w_args : argsFit about1.vm theMethod args0 = true := by decide +kernel
set_option maxRecDepth 65536 in
theorem w_heap : heapFits about1 = true := by decide +kernel
set_option maxRecDepth 65536 in
theorem w_runnable : about1.curStatus? = some .runnable := by decide +kernel
set_option maxRecDepth 65536 in
theorem w_alone : about1.alone = true := by decide +kernel
set_option maxRecDepth 65536 in
theorem w_named : about1.methodNamed? x = some theMethod := by decide +kernel
set_option maxRecDepth 65536 in
theorem w_hears : about1.hears theMethod below0 = true := by decide +kernel
set_option maxRecDepth 65536 in
theorem w_ripe : about1.ripe theMethod args0 below0 = true := by decide +kernel
theorem w_running : about1.status = .running := rfl
set_option maxRecDepth 65536 in
theorem w_room : about1.hasRoom e0.platform room_1 = true :=
  launch0.hasRoom_least _ room_1 (by decide +kernel) (by decide +kernel) (by decide +kernel) (by decide +kernel) (by decide +kernel) (by decide +kernel)
theorem allAtoms_all (ts : List Jvm.Cond) (a : Array Jvm.Value) (st : Jvm.State) : (allAtoms ts).before a st = ts.all (fun c => c.before a st) := by
  induction ts with
  | nil => rfl
  | cons c t ih =>
    show (Jvm.Cond.and c (allAtoms t)).before a st = _
    rw [Jvm.Cond.before_and, ih, List.all_cons]
def words1 : List Jvm.Cond := Jvm.Cond.code x code maxLocals ret :: tables_1
/-- a 'code' word, met by the world's own term for the bytes: nothing is compared byte by byte -/
theorem code_word {y : MethodName} {bytes : ByteArray} {mx : Nat} {rt : Option FieldType} {a : Array Value} {s : State} {m : MethodId} {meth : Method} {c : Code} (h1 : s.methodNamed? y = some m) (h2 : s.vm.method? m = some meth) (h3 : meth.code = some c) (h4 : c.code = bytes)
    (h5 : (c.maxLocals == mx && c.exceptionTable.isEmpty && decide (c.maxStack ≤ mostOperands) && decide (meth.sig.returnType = rt) && !meth.locks && decide (parseMethodDescriptor y.desc = some meth.sig)) = true) : (Jvm.Cond.code y bytes mx rt).before a s = true := by
  simp only [Bool.and_eq_true, beq_iff_eq, Bool.not_eq_true', decide_eq_true_eq] at h5
  obtain ⟨⟨⟨⟨⟨g1, g2⟩, g3⟩, g4⟩, g5⟩, g6⟩ := h5
  simp [Cond.before, Cond.holds, Cond.value, h1, h2, h3, h4, g1, g2, g3, g4, g5, g6]
def isCode : Jvm.Cond → Bool
  | .code _ _ _ _ => true
  | _ => false
theorem all_split {L : List Jvm.Cond} {P : Jvm.Cond → Bool} (h1 : L.all (fun c => isCode c || P c) = true) (h2 : ∀ c ∈ L.filter isCode, P c = true) : L.all P = true := by
  refine List.all_eq_true.mpr fun c hc => ?_
  have h := List.all_eq_true.mp h1 c hc
  rcases Bool.eq_false_or_eq_true (isCode c) with hi | hi
  · exact h2 c (List.mem_filter.mpr ⟨hc, hi⟩)
  · simpa [hi] using h
set_option maxRecDepth 65536 in
theorem w_c0 : (Jvm.Cond.code x code maxLocals ret).before args0 about1 = true := code_word (m := ⟨1, 1⟩) (meth := k1m1) (c := k1c1) (by decide +kernel) rfl rfl rfl (by decide +kernel)
set_option maxRecDepth 65536 in
theorem w_c1 : (Jvm.Cond.code ({ cls := "com/example/mirrorgauge/mirrorgauge/message/Decimal", name := "put", desc := "([BIJ)I" } : Jvm.MethodName) prog_49_method_3_code (8 : Nat) (Option.some Jvm.ClassFile.FieldType.int)).before args0 about1 = true := code_word (m := ⟨2, 2⟩) (meth := k2m2) (c := k2c2) (by decide +kernel) rfl rfl rfl (by decide +kernel)
set_option maxRecDepth 65536 in
theorem w_c2 : (Jvm.Cond.code ({ cls := "com/example/mirrorgauge/mirrorgauge/message/Decimal", name := "length", desc := "(J)I" } : Jvm.MethodName) prog_49_method_2_code (3 : Nat) (Option.some Jvm.ClassFile.FieldType.int)).before args0 about1 = true := code_word (m := ⟨2, 1⟩) (meth := k2m1) (c := k2c1) (by decide +kernel) rfl rfl rfl (by decide +kernel)
set_option maxRecDepth 65536 in
theorem w_c3 : (Jvm.Cond.code ({ cls := "com/example/mirrorgauge/mirrorgauge/message/Decimal", name := "read", desc := "([BII)J" } : Jvm.MethodName) prog_49_method_5_code (7 : Nat) (Option.some Jvm.ClassFile.FieldType.long)).before args0 about1 = true := code_word (m := ⟨2, 3⟩) (meth := k2m3) (c := k2c3) (by decide +kernel) rfl rfl rfl (by decide +kernel)
def codes1 : List Jvm.Cond := [Jvm.Cond.code x code maxLocals ret, Jvm.Cond.code ({ cls := "com/example/mirrorgauge/mirrorgauge/message/Decimal", name := "put", desc := "([BIJ)I" } : Jvm.MethodName) prog_49_method_3_code (8 : Nat) (Option.some Jvm.ClassFile.FieldType.int), Jvm.Cond.code ({ cls := "com/example/mirrorgauge/mirrorgauge/message/Decimal", name := "length", desc := "(J)I" } : Jvm.MethodName) prog_49_method_2_code (3 : Nat) (Option.some Jvm.ClassFile.FieldType.int), Jvm.Cond.code ({ cls := "com/example/mirrorgauge/mirrorgauge/message/Decimal", name := "read", desc := "([BII)J" } : Jvm.MethodName) prog_49_method_5_code (7 : Nat) (Option.some Jvm.ClassFile.FieldType.long)]
set_option maxRecDepth 65536 in
theorem codes_eq : words1.filter isCode = codes1 := rfl
theorem w_codes : ∀ c ∈ words1.filter isCode, c.before args0 about1 = true := by
  rw [codes_eq]
  intro c hc
  simp only [codes1, List.mem_cons, List.not_mem_nil, or_false] at hc
  rcases hc with rfl | rfl | rfl | rfl
  · exact w_c0
  · exact w_c1
  · exact w_c2
  · exact w_c3
set_option maxRecDepth 65536 in
theorem w_t1 : words1.all (fun c => isCode c || c.before args0 about1) = true := by decide +kernel
theorem w_tables : (allAtoms (Jvm.Cond.code x code maxLocals ret :: tables_1)).before args0 about1 = true := by
  rw [allAtoms_all]
  show words1.all (fun c => c.before args0 about1) = true
  refine all_split ?_ w_codes
  rw [w_t1]
set_option maxRecDepth 65536 in
theorem w_case : (Jvm.Cond.and given_1 narrow_1).before args0 about1 = true := by decide +kernel
theorem w_applies : (headSpec (Jvm.Cond.code x code maxLocals ret :: tables_1) room_1).applies x e0.platform about1 = true :=
  (Spec.applies_iff w_frames).mpr ⟨w_running, w_runnable, w_alone, w_named, w_hears, w_ripe, w_room, w_tables⟩
theorem atStart : AtStart classFile x code maxLocals ret World_1 tables_1 room_1 Calls_1 rest_1 Pre_1 launch0 p0 e0 about1 theMethod args0 below0 :=
  ⟨lists_1, trivial, launch0.admits_env _ _ _, launch0.least_env, fairChoices_fair.cas, fairChoices_fair.clock, w_frames, w_args, w_heap, w_applies, trivial, trivial, w_case⟩
end start1
theorem witness_1 : WitnessClaimed_1 := ⟨start1.p0, start1.e0, start1.about1, start1.theMethod, start1.args0, start1.below0, start1.atStart⟩
end Jvm.Pilot.@@N@@
