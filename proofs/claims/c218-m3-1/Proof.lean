import JvmDerived
import JvmDerived.Pilot.@@N@@Statement
import JvmDerived.Pilot.@@N@@Code
set_option linter.unusedVariables false
set_option linter.unusedSimpArgs false
namespace Jvm.EKit
open Sem ClassFile Op Lib Jvm.Stand Jvm.Free Jvm.LawKit Jvm.RoadKit
/-- from the frame F at T the body comes to a return that answers Q -/
def Ends (p : Program) (l : Launch) (e : Env) (R : Room) (s : State) (m : MethodId) (args : Array Value) (below : List Frame) (meth : Method) (c : Code) (C S : Nat) (Q : Option Value → Heap → List Loc → Prop) (T : State) (F : JFrame) : Prop :=
  ∃ (T' : State) (locs : List Loc) (cells slots : Nat) (v : Option Value), Stand p l e R s m args below meth c T' locs cells slots ∧ Q v T'.heap locs ∧ cells ≤ C ∧ slots ≤ S ∧ (meth.sig.returnType = none → v = none) ∧
    ∀ fs, (∀ (f : JFrame) (acts : List Action), f.method = m → f.locked = none → f.entered = [] → (doReturn e (T'.setTop f) acts v).1 = T'.setFrames fs) → Steps p.tables e below (T.setTop F) (T'.setFrames fs)
/-- the contract of a body -/
def Pays (l : Launch) (Z : State) (y : MethodName) (bytes : ByteArray) (maxL : Nat) (ret : Option FieldType) (ws : List Jvm.Cond) (rm : Room) (as' : Array Value) (h : Heap) (Q : Option Value → Heap → List Loc → Prop) : Prop :=
  MetFree l y (head1 (Jvm.Cond.code y bytes maxL ret :: ws) rm) (fun a U => a = as' ∧ Z.Warmed39 U.vm ∧ U.heap = h) (fun _ _ _ _ _ => True) (fun _ U o U' => ∃ v L, o = .returned v ∧ Q v U'.heap L ∧ FrameEnd U o U' L rm.cells rm.slots)
/-- it returns V and writes nothing -/
def RetQ (V : Option Value) (h : Heap) : Option Value → Heap → List Loc → Prop := fun v h' L => v = V ∧ h' = h ∧ L = []
section
variable {p : Program} {l : Launch} {e : Env} {R : Room} {s : State} {m : MethodId} {args : Array Value} {below : List Frame} {meth : Method} {c : Code} {T : State} {locs : List Loc} {cells slots : Nat} {C S : Nat} {Q : Option Value → Heap → List Loc → Prop} {pc q : Nat} {Ls : Array Slot} {st rest : List Value}
theorem step {T1 : State} {F F1 : JFrame} (h : ∀ t, Steps p.tables e below (T1.setTop F1) t → Steps p.tables e below (T.setTop F) t) (k : Ends p l e R s m args below meth c C S Q T1 F1) : Ends p l e R s m args below meth c C S Q T F := by
  obtain ⟨T', locs, cells, slots, v, h1, h2, h3, h4, h5, h6⟩ := k
  exact ⟨T', locs, cells, slots, v, h1, h2, h3, h4, h5, fun fs hl => h _ (h6 fs hl)⟩
theorem pays {Z : State} {y : MethodName} {bytes : ByteArray} {maxL : Nat} {ret : Option FieldType} {ws : List Jvm.Cond} {rm : Room} {as' : Array Value} {h : Heap} (hpl : plainFor y = true) {F0 : MethodId → JFrame} (hF : ∀ m, entryFrame m as' maxL = F0 m)
    (k : ∀ (p : Program) (e : Env) (s : State) (m : MethodId) (below : List Frame) (meth : Method) (c : Code) (s₁ : State), p.tables.exec = Jvm.exec → c.code = bytes → c.maxLocals = maxL → Z.Warmed39 s.vm → s.vm.findClass y.cls = some m.cls → meth.name = y.name → meth.sig.returnType = ret → Stand p l e rm s m as' below meth c s₁ [] 0 0 → s₁.heap = h → s.heap = h →
      Ends p l e rm s m as' below meth c rm.cells rm.slots Q s₁ (F0 m)) : Pays l Z y bytes maxL ret ws rm as' h Q := by
  refine MetFree.of_bodySF hpl hisR ?_
  intro p e s m args below meth c s₁ Bd hml0 hP hK
  obtain ⟨rfl, hZ, hh⟩ := hP
  obtain ⟨T', locs, cells, slots, v, X, hQ, h3, h4, h5, h6⟩ := k p e s m below meth c s₁ Bd.exec Bd.bytes hml0 hZ (findClass_of_methodNamed Bd.named) (name_of_methodNamed Bd.named Bd.method).1 Bd.returns (Stand.of_body Bd) (by rw [← hh, Bd.state]; rfl) hh
  obtain ⟨fs, hr, hrun, hended, hW, hsame⟩ := X.leave (v := v) h5
  exact ⟨_, _, castTop (hF m) (h6 fs hr), hrun, hended, v, locs, rfl, hQ, ⟨_, rfl⟩, hW, hsame.mono h3 h4⟩
theorem iloadN (X : Stand p l e R s m args below meth c T locs cells slots) (hx : p.tables.exec = Jvm.exec) {k0 : Fin 4} {v : Int32} (hl : Ls[k0.val]? = some (.val (.int v))) (hd : decode c.code pc = .ok (.iload_n k0, 1)) (hq : pc + 1 = q) (k : Ends p l e R s m args below meth c C S Q T (mkF m q Ls (.int v :: st))) : Ends p l e R s m args below meth c C S Q T (mkF m pc Ls (st)) := step (fun _ h => by subst hq; exact XS.iloadN X.here hx rfl hd hl h) k
theorem iload (X : Stand p l e R s m args below meth c T locs cells slots) (hx : p.tables.exec = Jvm.exec) {k0 : Nat} {v : Int32} (hl : Ls[k0]? = some (.val (.int v))) (hd : decode c.code pc = .ok (.iload k0, 2)) (hq : pc + 2 = q) (k : Ends p l e R s m args below meth c C S Q T (mkF m q Ls (.int v :: st))) : Ends p l e R s m args below meth c C S Q T (mkF m pc Ls (st)) := step (fun _ h => by subst hq; exact XS.iload X.here hx rfl hd hl h) k
theorem istoreN (X : Stand p l e R s m args below meth c T locs cells slots) (hx : p.tables.exec = Jvm.exec) {k0 : Fin 4} {v : Int32} {l' : Array Slot} (hl : storeLocals Ls k0.val (.int v) = some l') (hd : decode c.code pc = .ok (.istore_n k0, 1)) (hq : pc + 1 = q) (k : Ends p l e R s m args below meth c C S Q T (mkF m q l' (st))) : Ends p l e R s m args below meth c C S Q T (mkF m pc Ls (.int v :: st)) := step (fun _ h => by subst hq; exact XS.istoreN X.here hx rfl hd rfl hl h) k
theorem istore (X : Stand p l e R s m args below meth c T locs cells slots) (hx : p.tables.exec = Jvm.exec) {k0 : Nat} {v : Int32} {l' : Array Slot} (hl : storeLocals Ls k0 (.int v) = some l') (hd : decode c.code pc = .ok (.istore k0, 2)) (hq : pc + 2 = q) (k : Ends p l e R s m args below meth c C S Q T (mkF m q l' (st))) : Ends p l e R s m args below meth c C S Q T (mkF m pc Ls (.int v :: st)) := step (fun _ h => by subst hq; exact XS.istore X.here hx rfl hd rfl hl h) k
theorem lloadN (X : Stand p l e R s m args below meth c T locs cells slots) (hx : p.tables.exec = Jvm.exec) {k0 : Fin 4} {v : Int64} (hl : Ls[k0.val]? = some (.val (.long v))) (hd : decode c.code pc = .ok (.lload_n k0, 1)) (hq : pc + 1 = q) (k : Ends p l e R s m args below meth c C S Q T (mkF m q Ls (.long v :: st))) : Ends p l e R s m args below meth c C S Q T (mkF m pc Ls (st)) := step (fun _ h => by subst hq; exact XS.lloadN X.here hx rfl hd hl h) k
theorem lload (X : Stand p l e R s m args below meth c T locs cells slots) (hx : p.tables.exec = Jvm.exec) {k0 : Nat} {v : Int64} (hl : Ls[k0]? = some (.val (.long v))) (hd : decode c.code pc = .ok (.lload k0, 2)) (hq : pc + 2 = q) (k : Ends p l e R s m args below meth c C S Q T (mkF m q Ls (.long v :: st))) : Ends p l e R s m args below meth c C S Q T (mkF m pc Ls (st)) := step (fun _ h => by subst hq; exact XS.lload X.here hx rfl hd hl h) k
theorem lstoreN (X : Stand p l e R s m args below meth c T locs cells slots) (hx : p.tables.exec = Jvm.exec) {k0 : Fin 4} {v : Int64} {l' : Array Slot} (hl : storeLocals Ls k0.val (.long v) = some l') (hd : decode c.code pc = .ok (.lstore_n k0, 1)) (hq : pc + 1 = q) (k : Ends p l e R s m args below meth c C S Q T (mkF m q l' (st))) : Ends p l e R s m args below meth c C S Q T (mkF m pc Ls (.long v :: st)) := step (fun _ h => by subst hq; exact XS.lstoreN X.here hx rfl hd rfl hl h) k
theorem lstore (X : Stand p l e R s m args below meth c T locs cells slots) (hx : p.tables.exec = Jvm.exec) {k0 : Nat} {v : Int64} {l' : Array Slot} (hl : storeLocals Ls k0 (.long v) = some l') (hd : decode c.code pc = .ok (.lstore k0, 2)) (hq : pc + 2 = q) (k : Ends p l e R s m args below meth c C S Q T (mkF m q l' (st))) : Ends p l e R s m args below meth c C S Q T (mkF m pc Ls (.long v :: st)) := step (fun _ h => by subst hq; exact XS.lstore X.here hx rfl hd rfl hl h) k
theorem aloadN (X : Stand p l e R s m args below meth c T locs cells slots) (hx : p.tables.exec = Jvm.exec) {k0 : Fin 4} {v : Value} (hl : Ls[k0.val]? = some (.val v)) (hv : v.isRef = true) (hd : decode c.code pc = .ok (.aload_n k0, 1)) (hq : pc + 1 = q) (k : Ends p l e R s m args below meth c C S Q T (mkF m q Ls (v :: st))) : Ends p l e R s m args below meth c C S Q T (mkF m pc Ls (st)) := step (fun _ h => by subst hq; exact XS.aloadN X.here hx rfl hd hl hv h) k
theorem aload (X : Stand p l e R s m args below meth c T locs cells slots) (hx : p.tables.exec = Jvm.exec) {k0 : Nat} {v : Value} (hl : Ls[k0]? = some (.val v)) (hv : v.isRef = true) (hd : decode c.code pc = .ok (.aload k0, 2)) (hq : pc + 2 = q) (k : Ends p l e R s m args below meth c C S Q T (mkF m q Ls (v :: st))) : Ends p l e R s m args below meth c C S Q T (mkF m pc Ls (st)) := step (fun _ h => by subst hq; exact XS.aload X.here hx rfl hd hl hv h) k
theorem astoreN (X : Stand p l e R s m args below meth c T locs cells slots) (hx : p.tables.exec = Jvm.exec) {k0 : Fin 4} {v : Value} {l' : Array Slot} (hv : v.isRef = true) (hl : storeLocals Ls k0.val v = some l') (hd : decode c.code pc = .ok (.astore_n k0, 1)) (hq : pc + 1 = q) (k : Ends p l e R s m args below meth c C S Q T (mkF m q l' (st))) : Ends p l e R s m args below meth c C S Q T (mkF m pc Ls (v :: st)) := step (fun _ h => by subst hq; exact XS.astoreN X.here hx rfl hd rfl hv hl h) k
theorem astore (X : Stand p l e R s m args below meth c T locs cells slots) (hx : p.tables.exec = Jvm.exec) {k0 : Nat} {v : Value} {l' : Array Slot} (hv : v.isRef = true) (hl : storeLocals Ls k0 v = some l') (hd : decode c.code pc = .ok (.astore k0, 2)) (hq : pc + 2 = q) (k : Ends p l e R s m args below meth c C S Q T (mkF m q l' (st))) : Ends p l e R s m args below meth c C S Q T (mkF m pc Ls (v :: st)) := step (fun _ h => by subst hq; exact XS.astore X.here hx rfl hd rfl hv hl h) k
theorem iconst (X : Stand p l e R s m args below meth c T locs cells slots) (hx : p.tables.exec = Jvm.exec) {i : Int} {v : Int32} (hv : Int32.ofInt i = v) (hd : decode c.code pc = .ok (.iconst i, 1)) (hq : pc + 1 = q) (k : Ends p l e R s m args below meth c C S Q T (mkF m q Ls (.int v :: st))) : Ends p l e R s m args below meth c C S Q T (mkF m pc Ls (st)) := step (fun _ h => by subst hq; exact XS.iconst X.here hx rfl hd (by rw [hv]; exact h)) k
theorem bipush (X : Stand p l e R s m args below meth c T locs cells slots) (hx : p.tables.exec = Jvm.exec) {i : Int} {v : Int32} (hv : (Int8.ofInt i).toInt32 = v) (hd : decode c.code pc = .ok (.bipush i, 2)) (hq : pc + 2 = q) (k : Ends p l e R s m args below meth c C S Q T (mkF m q Ls (.int v :: st))) : Ends p l e R s m args below meth c C S Q T (mkF m pc Ls (st)) := step (fun _ h => by subst hq; exact XS.bipush X.here hx rfl hd (by rw [hv]; exact h)) k
theorem sipush (X : Stand p l e R s m args below meth c T locs cells slots) (hx : p.tables.exec = Jvm.exec) {i : Int} {v : Int32} (hv : (Int16.ofInt i).toInt32 = v) (hd : decode c.code pc = .ok (.sipush i, 3)) (hq : pc + 3 = q) (k : Ends p l e R s m args below meth c C S Q T (mkF m q Ls (.int v :: st))) : Ends p l e R s m args below meth c C S Q T (mkF m pc Ls (st)) := step (fun _ h => by subst hq; exact XS.sipush X.here hx rfl hd (by rw [hv]; exact h)) k
theorem lconst (X : Stand p l e R s m args below meth c T locs cells slots) (hx : p.tables.exec = Jvm.exec) {i : Fin 2} {v : Int64} (hv : Int64.ofNat i = v) (hd : decode c.code pc = .ok (.lconst i, 1)) (hq : pc + 1 = q) (k : Ends p l e R s m args below meth c C S Q T (mkF m q Ls (.long v :: st))) : Ends p l e R s m args below meth c C S Q T (mkF m pc Ls (st)) := step (fun _ h => by subst hq; exact XS.lconst X.here hx rfl hd (by rw [hv]; exact h)) k
theorem aconstNull (X : Stand p l e R s m args below meth c T locs cells slots) (hx : p.tables.exec = Jvm.exec)  (hd : decode c.code pc = .ok (.aconst_null, 1)) (hq : pc + 1 = q) (k : Ends p l e R s m args below meth c C S Q T (mkF m q Ls (.null :: st))) : Ends p l e R s m args below meth c C S Q T (mkF m pc Ls (st)) := step (fun _ h => by subst hq; exact XS.aconstNull X.here hx rfl hd h) k
theorem iadd (X : Stand p l e R s m args below meth c T locs cells slots) (hx : p.tables.exec = Jvm.exec) {x y : Int32} (hd : decode c.code pc = .ok (.iadd, 1)) (hq : pc + 1 = q) (k : Ends p l e R s m args below meth c C S Q T (mkF m q Ls (.int (x + y) :: st))) : Ends p l e R s m args below meth c C S Q T (mkF m pc Ls (.int y :: .int x :: st)) := step (fun _ h => by subst hq; exact XS.iadd X.here hx rfl hd rfl h) k
theorem isub (X : Stand p l e R s m args below meth c T locs cells slots) (hx : p.tables.exec = Jvm.exec) {x y : Int32} (hd : decode c.code pc = .ok (.isub, 1)) (hq : pc + 1 = q) (k : Ends p l e R s m args below meth c C S Q T (mkF m q Ls (.int (x - y) :: st))) : Ends p l e R s m args below meth c C S Q T (mkF m pc Ls (.int y :: .int x :: st)) := step (fun _ h => by subst hq; exact XS.isub X.here hx rfl hd rfl h) k
theorem imul (X : Stand p l e R s m args below meth c T locs cells slots) (hx : p.tables.exec = Jvm.exec) {x y : Int32} (hd : decode c.code pc = .ok (.imul, 1)) (hq : pc + 1 = q) (k : Ends p l e R s m args below meth c C S Q T (mkF m q Ls (.int (x * y) :: st))) : Ends p l e R s m args below meth c C S Q T (mkF m pc Ls (.int y :: .int x :: st)) := step (fun _ h => by subst hq; exact XS.imul X.here hx rfl hd rfl h) k
theorem iand (X : Stand p l e R s m args below meth c T locs cells slots) (hx : p.tables.exec = Jvm.exec) {x y : Int32} (hd : decode c.code pc = .ok (.iand, 1)) (hq : pc + 1 = q) (k : Ends p l e R s m args below meth c C S Q T (mkF m q Ls (.int (x &&& y) :: st))) : Ends p l e R s m args below meth c C S Q T (mkF m pc Ls (.int y :: .int x :: st)) := step (fun _ h => by subst hq; exact XS.iand X.here hx rfl hd rfl h) k
theorem ior (X : Stand p l e R s m args below meth c T locs cells slots) (hx : p.tables.exec = Jvm.exec) {x y : Int32} (hd : decode c.code pc = .ok (.ior, 1)) (hq : pc + 1 = q) (k : Ends p l e R s m args below meth c C S Q T (mkF m q Ls (.int (x ||| y) :: st))) : Ends p l e R s m args below meth c C S Q T (mkF m pc Ls (.int y :: .int x :: st)) := step (fun _ h => by subst hq; exact XS.ior X.here hx rfl hd rfl h) k
theorem ixor (X : Stand p l e R s m args below meth c T locs cells slots) (hx : p.tables.exec = Jvm.exec) {x y : Int32} (hd : decode c.code pc = .ok (.ixor, 1)) (hq : pc + 1 = q) (k : Ends p l e R s m args below meth c C S Q T (mkF m q Ls (.int (x ^^^ y) :: st))) : Ends p l e R s m args below meth c C S Q T (mkF m pc Ls (.int y :: .int x :: st)) := step (fun _ h => by subst hq; exact XS.ixor X.here hx rfl hd rfl h) k
theorem ineg (X : Stand p l e R s m args below meth c T locs cells slots) (hx : p.tables.exec = Jvm.exec) {x : Int32} (hd : decode c.code pc = .ok (.ineg, 1)) (hq : pc + 1 = q) (k : Ends p l e R s m args below meth c C S Q T (mkF m q Ls (.int (-x) :: st))) : Ends p l e R s m args below meth c C S Q T (mkF m pc Ls (.int x :: st)) := step (fun _ h => by subst hq; exact XS.ineg X.here hx rfl hd rfl h) k
theorem idiv (X : Stand p l e R s m args below meth c T locs cells slots) (hx : p.tables.exec = Jvm.exec) {x y : Int32} (hy : y ≠ 0) (hd : decode c.code pc = .ok (.idiv, 1)) (hq : pc + 1 = q) (k : Ends p l e R s m args below meth c C S Q T (mkF m q Ls (.int (x / y) :: st))) : Ends p l e R s m args below meth c C S Q T (mkF m pc Ls (.int y :: .int x :: st)) := step (fun _ h => by subst hq; exact XS.idiv X.here hx rfl hd rfl hy h) k
theorem ladd (X : Stand p l e R s m args below meth c T locs cells slots) (hx : p.tables.exec = Jvm.exec) {x y : Int64} (hd : decode c.code pc = .ok (.ladd, 1)) (hq : pc + 1 = q) (k : Ends p l e R s m args below meth c C S Q T (mkF m q Ls (.long (x + y) :: st))) : Ends p l e R s m args below meth c C S Q T (mkF m pc Ls (.long y :: .long x :: st)) := step (fun _ h => by subst hq; exact XS.ladd X.here hx rfl hd rfl h) k
theorem lsub (X : Stand p l e R s m args below meth c T locs cells slots) (hx : p.tables.exec = Jvm.exec) {x y : Int64} (hd : decode c.code pc = .ok (.lsub, 1)) (hq : pc + 1 = q) (k : Ends p l e R s m args below meth c C S Q T (mkF m q Ls (.long (x - y) :: st))) : Ends p l e R s m args below meth c C S Q T (mkF m pc Ls (.long y :: .long x :: st)) := step (fun _ h => by subst hq; exact XS.lsub X.here hx rfl hd rfl h) k
theorem lmul (X : Stand p l e R s m args below meth c T locs cells slots) (hx : p.tables.exec = Jvm.exec) {x y : Int64} (hd : decode c.code pc = .ok (.lmul, 1)) (hq : pc + 1 = q) (k : Ends p l e R s m args below meth c C S Q T (mkF m q Ls (.long (x * y) :: st))) : Ends p l e R s m args below meth c C S Q T (mkF m pc Ls (.long y :: .long x :: st)) := step (fun _ h => by subst hq; exact XS.lmul X.here hx rfl hd rfl h) k
theorem land (X : Stand p l e R s m args below meth c T locs cells slots) (hx : p.tables.exec = Jvm.exec) {x y : Int64} (hd : decode c.code pc = .ok (.land, 1)) (hq : pc + 1 = q) (k : Ends p l e R s m args below meth c C S Q T (mkF m q Ls (.long (x &&& y) :: st))) : Ends p l e R s m args below meth c C S Q T (mkF m pc Ls (.long y :: .long x :: st)) := step (fun _ h => by subst hq; exact XS.land X.here hx rfl hd rfl h) k
theorem lor (X : Stand p l e R s m args below meth c T locs cells slots) (hx : p.tables.exec = Jvm.exec) {x y : Int64} (hd : decode c.code pc = .ok (.lor, 1)) (hq : pc + 1 = q) (k : Ends p l e R s m args below meth c C S Q T (mkF m q Ls (.long (x ||| y) :: st))) : Ends p l e R s m args below meth c C S Q T (mkF m pc Ls (.long y :: .long x :: st)) := step (fun _ h => by subst hq; exact XS.lor X.here hx rfl hd rfl h) k
theorem lxor (X : Stand p l e R s m args below meth c T locs cells slots) (hx : p.tables.exec = Jvm.exec) {x y : Int64} (hd : decode c.code pc = .ok (.lxor, 1)) (hq : pc + 1 = q) (k : Ends p l e R s m args below meth c C S Q T (mkF m q Ls (.long (x ^^^ y) :: st))) : Ends p l e R s m args below meth c C S Q T (mkF m pc Ls (.long y :: .long x :: st)) := step (fun _ h => by subst hq; exact XS.lxor X.here hx rfl hd rfl h) k
theorem lneg (X : Stand p l e R s m args below meth c T locs cells slots) (hx : p.tables.exec = Jvm.exec) {x : Int64} (hd : decode c.code pc = .ok (.lneg, 1)) (hq : pc + 1 = q) (k : Ends p l e R s m args below meth c C S Q T (mkF m q Ls (.long (-x) :: st))) : Ends p l e R s m args below meth c C S Q T (mkF m pc Ls (.long x :: st)) := step (fun _ h => by subst hq; exact XS.lneg X.here hx rfl hd rfl h) k
theorem ldiv (X : Stand p l e R s m args below meth c T locs cells slots) (hx : p.tables.exec = Jvm.exec) {x y : Int64} (hy : y ≠ 0) (hd : decode c.code pc = .ok (.ldiv, 1)) (hq : pc + 1 = q) (k : Ends p l e R s m args below meth c C S Q T (mkF m q Ls (.long (x / y) :: st))) : Ends p l e R s m args below meth c C S Q T (mkF m pc Ls (.long y :: .long x :: st)) := step (fun _ h => by subst hq; exact XS.ldiv X.here hx rfl hd rfl hy h) k
theorem irem (X : Stand p l e R s m args below meth c T locs cells slots) (hx : p.tables.exec = Jvm.exec) {x y : Int32} (hy : y ≠ 0) (hd : decode c.code pc = .ok (.irem, 1)) (hq : pc + 1 = q) (k : Ends p l e R s m args below meth c C S Q T (mkF m q Ls (.int (x % y) :: st))) : Ends p l e R s m args below meth c C S Q T (mkF m pc Ls (.int y :: .int x :: st)) := step (fun _ h => by subst hq; exact iremM X hx rfl hd rfl hy h) k
theorem lrem (X : Stand p l e R s m args below meth c T locs cells slots) (hx : p.tables.exec = Jvm.exec) {x y : Int64} (hy : y ≠ 0) (hd : decode c.code pc = .ok (.lrem, 1)) (hq : pc + 1 = q) (k : Ends p l e R s m args below meth c C S Q T (mkF m q Ls (.long (x % y) :: st))) : Ends p l e R s m args below meth c C S Q T (mkF m pc Ls (.long y :: .long x :: st)) := step (fun _ h => by subst hq; exact XS.lrem X.here hx rfl hd rfl hy (by rw [lrem_mod]; exact h)) k
theorem ishl (X : Stand p l e R s m args below meth c T locs cells slots) (hx : p.tables.exec = Jvm.exec) {x : Int32} {y : Int32} (hd : decode c.code pc = .ok (.ishl, 1)) (hq : pc + 1 = q) (k : Ends p l e R s m args below meth c C S Q T (mkF m q Ls (.int (x <<< (y &&& 31)) :: st))) : Ends p l e R s m args below meth c C S Q T (mkF m pc Ls (.int y :: .int x :: st)) := step (fun _ h => by subst hq; exact XS.ishl X.here hx rfl hd rfl h) k
theorem ishr (X : Stand p l e R s m args below meth c T locs cells slots) (hx : p.tables.exec = Jvm.exec) {x : Int32} {y : Int32} (hd : decode c.code pc = .ok (.ishr, 1)) (hq : pc + 1 = q) (k : Ends p l e R s m args below meth c C S Q T (mkF m q Ls (.int (x >>> (y &&& 31)) :: st))) : Ends p l e R s m args below meth c C S Q T (mkF m pc Ls (.int y :: .int x :: st)) := step (fun _ h => by subst hq; exact XS.ishr X.here hx rfl hd rfl h) k
theorem iushr (X : Stand p l e R s m args below meth c T locs cells slots) (hx : p.tables.exec = Jvm.exec) {x : Int32} {y : Int32} (hd : decode c.code pc = .ok (.iushr, 1)) (hq : pc + 1 = q) (k : Ends p l e R s m args below meth c C S Q T (mkF m q Ls (.int ((x.toUInt32 >>> (y &&& 31).toUInt32).toInt32) :: st))) : Ends p l e R s m args below meth c C S Q T (mkF m pc Ls (.int y :: .int x :: st)) := step (fun _ h => by subst hq; exact XS.iushr X.here hx rfl hd rfl h) k
theorem lshl (X : Stand p l e R s m args below meth c T locs cells slots) (hx : p.tables.exec = Jvm.exec) {x : Int64} {y : Int32} (hd : decode c.code pc = .ok (.lshl, 1)) (hq : pc + 1 = q) (k : Ends p l e R s m args below meth c C S Q T (mkF m q Ls (.long (x <<< (y &&& 0x3f).toInt64) :: st))) : Ends p l e R s m args below meth c C S Q T (mkF m pc Ls (.int y :: .long x :: st)) := step (fun _ h => by subst hq; exact XS.lshl X.here hx rfl hd rfl h) k
theorem lshr (X : Stand p l e R s m args below meth c T locs cells slots) (hx : p.tables.exec = Jvm.exec) {x : Int64} {y : Int32} (hd : decode c.code pc = .ok (.lshr, 1)) (hq : pc + 1 = q) (k : Ends p l e R s m args below meth c C S Q T (mkF m q Ls (.long (x >>> (y &&& 0x3f).toInt64) :: st))) : Ends p l e R s m args below meth c C S Q T (mkF m pc Ls (.int y :: .long x :: st)) := step (fun _ h => by subst hq; exact XS.lshr X.here hx rfl hd rfl h) k
theorem lushr (X : Stand p l e R s m args below meth c T locs cells slots) (hx : p.tables.exec = Jvm.exec) {x : Int64} {y : Int32} (hd : decode c.code pc = .ok (.lushr, 1)) (hq : pc + 1 = q) (k : Ends p l e R s m args below meth c C S Q T (mkF m q Ls (.long ((x.toUInt64 >>> (y &&& 0x3f).toInt64.toUInt64).toInt64) :: st))) : Ends p l e R s m args below meth c C S Q T (mkF m pc Ls (.int y :: .long x :: st)) := step (fun _ h => by subst hq; exact XS.lushr X.here hx rfl hd rfl h) k
theorem i2l (X : Stand p l e R s m args below meth c T locs cells slots) (hx : p.tables.exec = Jvm.exec) {x : Int32} (hd : decode c.code pc = .ok (.i2l, 1)) (hq : pc + 1 = q) (k : Ends p l e R s m args below meth c C S Q T (mkF m q Ls (.long (x.toInt64) :: st))) : Ends p l e R s m args below meth c C S Q T (mkF m pc Ls (.int x :: st)) := step (fun _ h => by subst hq; exact XS.i2l X.here hx rfl hd rfl h) k
theorem l2i (X : Stand p l e R s m args below meth c T locs cells slots) (hx : p.tables.exec = Jvm.exec) {x : Int64} (hd : decode c.code pc = .ok (.l2i, 1)) (hq : pc + 1 = q) (k : Ends p l e R s m args below meth c C S Q T (mkF m q Ls (.int (x.toInt32) :: st))) : Ends p l e R s m args below meth c C S Q T (mkF m pc Ls (.long x :: st)) := step (fun _ h => by subst hq; exact XS.l2i X.here hx rfl hd rfl h) k
theorem i2b (X : Stand p l e R s m args below meth c T locs cells slots) (hx : p.tables.exec = Jvm.exec) {x : Int32} (hd : decode c.code pc = .ok (.i2b, 1)) (hq : pc + 1 = q) (k : Ends p l e R s m args below meth c C S Q T (mkF m q Ls (.int (x.toInt8.toInt32) :: st))) : Ends p l e R s m args below meth c C S Q T (mkF m pc Ls (.int x :: st)) := step (fun _ h => by subst hq; exact XS.i2b X.here hx rfl hd rfl h) k
theorem i2s (X : Stand p l e R s m args below meth c T locs cells slots) (hx : p.tables.exec = Jvm.exec) {x : Int32} (hd : decode c.code pc = .ok (.i2s, 1)) (hq : pc + 1 = q) (k : Ends p l e R s m args below meth c C S Q T (mkF m q Ls (.int (x.toInt16.toInt32) :: st))) : Ends p l e R s m args below meth c C S Q T (mkF m pc Ls (.int x :: st)) := step (fun _ h => by subst hq; exact XS.i2s X.here hx rfl hd rfl h) k
theorem i2c (X : Stand p l e R s m args below meth c T locs cells slots) (hx : p.tables.exec = Jvm.exec) {x : Int32} (hd : decode c.code pc = .ok (.i2c, 1)) (hq : pc + 1 = q) (k : Ends p l e R s m args below meth c C S Q T (mkF m q Ls (.int (x.toUInt32.toUInt16.toUInt32.toInt32) :: st))) : Ends p l e R s m args below meth c C S Q T (mkF m pc Ls (.int x :: st)) := step (fun _ h => by subst hq; exact XS.i2c X.here hx rfl hd rfl h) k
theorem lcmp (X : Stand p l e R s m args below meth c T locs cells slots) (hx : p.tables.exec = Jvm.exec) {x y : Int64} (hd : decode c.code pc = .ok (.lcmp, 1)) (hq : pc + 1 = q) (k : Ends p l e R s m args below meth c C S Q T (mkF m q Ls (.int (lcmpW x y) :: st))) : Ends p l e R s m args below meth c C S Q T (mkF m pc Ls (.long y :: .long x :: st)) := step (fun _ h => by subst hq; exact XS.lcmp X.here hx rfl hd rfl h) k
theorem dup (X : Stand p l e R s m args below meth c T locs cells slots) (hx : p.tables.exec = Jvm.exec) {v : Value} (hc : v.category = 1) (hd : decode c.code pc = .ok (.dup, 1)) (hq : pc + 1 = q) (k : Ends p l e R s m args below meth c C S Q T (mkF m q Ls (v :: v :: st))) : Ends p l e R s m args below meth c C S Q T (mkF m pc Ls (v :: st)) := step (fun _ h => by subst hq; exact XS.dup X.here hx rfl hd rfl hc h) k
theorem pop (X : Stand p l e R s m args below meth c T locs cells slots) (hx : p.tables.exec = Jvm.exec) {v : Value} (hc : v.category = 1) (hd : decode c.code pc = .ok (.pop, 1)) (hq : pc + 1 = q) (k : Ends p l e R s m args below meth c C S Q T (mkF m q Ls (st))) : Ends p l e R s m args below meth c C S Q T (mkF m pc Ls (v :: st)) := step (fun _ h => by subst hq; exact XS.pop X.here hx rfl hd rfl hc h) k
theorem iinc (X : Stand p l e R s m args below meth c T locs cells slots) (hx : p.tables.exec = Jvm.exec) {k0 : Nat} {cst : Int} {x v : Int32} {l' : Array Slot} (hl : Ls[k0]? = some (.val (.int x))) (hv : x + Int32.ofInt cst = v) (hl' : storeLocals Ls k0 (.int v) = some l') (hd : decode c.code pc = .ok (.iinc k0 cst, 3)) (hq : pc + 3 = q) (k : Ends p l e R s m args below meth c C S Q T (mkF m q l' (st))) : Ends p l e R s m args below meth c C S Q T (mkF m pc Ls (st)) := step (fun _ h => by subst hq; exact XS.iinc X.here hx rfl hd hl (by rw [hv]; exact hl') h) k
theorem goto (X : Stand p l e R s m args below meth c T locs cells slots) (hx : p.tables.exec = Jvm.exec) {o : Int}  (hd : decode c.code pc = .ok (.goto o, 3)) (ho : 0 ≤ (pc : Int) + o) (hq : ((pc : Int) + o).toNat = q) (k : Ends p l e R s m args below meth c C S Q T (mkF m q Ls (st))) : Ends p l e R s m args below meth c C S Q T (mkF m pc Ls (st)) := step (fun _ h => XS.goto X.here hx rfl rfl hd ho hq h) k
theorem ifYes (X : Stand p l e R s m args below meth c T locs cells slots) (hx : p.tables.exec = Jvm.exec) {o : Int} {cd : ClassFile.Cond} {x : Int32} (hc : ifCond.holds cd x = true) (hd : decode c.code pc = .ok (.ifCond cd o, 3)) (ho : 0 ≤ (pc : Int) + o) (hq : ((pc : Int) + o).toNat = q) (k : Ends p l e R s m args below meth c C S Q T (mkF m q Ls (st))) : Ends p l e R s m args below meth c C S Q T (mkF m pc Ls (.int x :: st)) := step (fun _ h => XS.ifYes X.here hx rfl rfl hd rfl hc ho hq h) k
theorem icmpYes (X : Stand p l e R s m args below meth c T locs cells slots) (hx : p.tables.exec = Jvm.exec) {o : Int} {cd : ClassFile.Cond} {x y : Int32} (hc : if_icmp.holds cd x y = true) (hd : decode c.code pc = .ok (.if_icmp cd o, 3)) (ho : 0 ≤ (pc : Int) + o) (hq : ((pc : Int) + o).toNat = q) (k : Ends p l e R s m args below meth c C S Q T (mkF m q Ls (st))) : Ends p l e R s m args below meth c C S Q T (mkF m pc Ls (.int y :: .int x :: st)) := step (fun _ h => XS.icmpYes X.here hx rfl rfl hd rfl hc ho hq h) k
theorem ifnullYes (X : Stand p l e R s m args below meth c T locs cells slots) (hx : p.tables.exec = Jvm.exec) {o : Int}  (hd : decode c.code pc = .ok (.ifnull o, 3)) (ho : 0 ≤ (pc : Int) + o) (hq : ((pc : Int) + o).toNat = q) (k : Ends p l e R s m args below meth c C S Q T (mkF m q Ls (st))) : Ends p l e R s m args below meth c C S Q T (mkF m pc Ls (.null :: st)) := step (fun _ h => XS.ifnullYes X.here hx rfl rfl hd rfl ho hq h) k
theorem ifnonnullYes (X : Stand p l e R s m args below meth c T locs cells slots) (hx : p.tables.exec = Jvm.exec) {o : Int} {b : Addr} (hd : decode c.code pc = .ok (.ifnonnull o, 3)) (ho : 0 ≤ (pc : Int) + o) (hq : ((pc : Int) + o).toNat = q) (k : Ends p l e R s m args below meth c C S Q T (mkF m q Ls (st))) : Ends p l e R s m args below meth c C S Q T (mkF m pc Ls (.ref b :: st)) := step (fun _ h => XS.ifnonnullYes X.here hx rfl rfl hd rfl ho hq h) k
theorem ifNo (X : Stand p l e R s m args below meth c T locs cells slots) (hx : p.tables.exec = Jvm.exec) {o : Int} {cd : ClassFile.Cond} {x : Int32} (hc : ifCond.holds cd x = false) (hd : decode c.code pc = .ok (.ifCond cd o, 3)) (hq : pc + 3 = q) (k : Ends p l e R s m args below meth c C S Q T (mkF m q Ls (st))) : Ends p l e R s m args below meth c C S Q T (mkF m pc Ls (.int x :: st)) := step (fun _ h => by subst hq; exact XS.ifNo X.here hx rfl hd rfl hc h) k
theorem icmpNo (X : Stand p l e R s m args below meth c T locs cells slots) (hx : p.tables.exec = Jvm.exec) {o : Int} {cd : ClassFile.Cond} {x y : Int32} (hc : if_icmp.holds cd x y = false) (hd : decode c.code pc = .ok (.if_icmp cd o, 3)) (hq : pc + 3 = q) (k : Ends p l e R s m args below meth c C S Q T (mkF m q Ls (st))) : Ends p l e R s m args below meth c C S Q T (mkF m pc Ls (.int y :: .int x :: st)) := step (fun _ h => by subst hq; exact XS.icmpNo X.here hx rfl hd rfl hc h) k
theorem ifnullNo (X : Stand p l e R s m args below meth c T locs cells slots) (hx : p.tables.exec = Jvm.exec) {o : Int} {b : Addr} (hd : decode c.code pc = .ok (.ifnull o, 3)) (hq : pc + 3 = q) (k : Ends p l e R s m args below meth c C S Q T (mkF m q Ls (st))) : Ends p l e R s m args below meth c C S Q T (mkF m pc Ls (.ref b :: st)) := step (fun _ h => by subst hq; exact XS.ifnullNo X.here hx rfl hd rfl h) k
theorem ifnonnullNo (X : Stand p l e R s m args below meth c T locs cells slots) (hx : p.tables.exec = Jvm.exec) {o : Int} (hd : decode c.code pc = .ok (.ifnonnull o, 3)) (hq : pc + 3 = q) (k : Ends p l e R s m args below meth c C S Q T (mkF m q Ls (st))) : Ends p l e R s m args below meth c C S Q T (mkF m pc Ls (.null :: st)) := step (fun _ h => by subst hq; exact XS.ifnonnullNo X.here hx rfl hd rfl h) k
theorem acmp (X : Stand p l e R s m args below meth c T locs cells slots) (hx : p.tables.exec = Jvm.exec) {o : Int} {cd : ACond} {x y : Value} (h1 : x.isRef = true) (h2 : y.isRef = true) {same : Bool} (hs : decide (x = y) = same) (hd : decode c.code pc = .ok (.if_acmp cd o, 3)) (ho : 0 ≤ (pc : Int) + o) (hq : q = if acV cd same = true then ((pc : Int) + o).toNat else pc + 3) (k : Ends p l e R s m args below meth c C S Q T (mkF m q Ls st)) : Ends p l e R s m args below meth c C S Q T (mkF m pc Ls (y :: x :: st)) := step (fun _ h => Jvm.RoadKit.acmp X hx rfl h1 h2 rfl hd rfl hs ho hq h) k
theorem dloadN (X : Stand p l e R s m args below meth c T locs cells slots) (hx : p.tables.exec = Jvm.exec) {k0 : Fin 4} {v : UInt64} (hl : Ls[k0.val]? = some (.val (.double v))) (hd : decode c.code pc = .ok (.dload_n k0, 1)) (hq : pc + 1 = q) (k : Ends p l e R s m args below meth c C S Q T (mkF m q Ls (.double v :: st))) : Ends p l e R s m args below meth c C S Q T (mkF m pc Ls (st)) := step (fun _ h => by subst hq; exact XS.dloadN X.here hx rfl hd hl h) k
theorem dload (X : Stand p l e R s m args below meth c T locs cells slots) (hx : p.tables.exec = Jvm.exec) {k0 : Nat} {v : UInt64} (hl : Ls[k0]? = some (.val (.double v))) (hd : decode c.code pc = .ok (.dload k0, 2)) (hq : pc + 2 = q) (k : Ends p l e R s m args below meth c C S Q T (mkF m q Ls (.double v :: st))) : Ends p l e R s m args below meth c C S Q T (mkF m pc Ls (st)) := step (fun _ h => by subst hq; exact XS.dload X.here hx rfl hd hl h) k
theorem dstoreN (X : Stand p l e R s m args below meth c T locs cells slots) (hx : p.tables.exec = Jvm.exec) {k0 : Fin 4} {v : UInt64} {l' : Array Slot} (hl : storeLocals Ls k0.val (.double v) = some l') (hd : decode c.code pc = .ok (.dstore_n k0, 1)) (hq : pc + 1 = q) (k : Ends p l e R s m args below meth c C S Q T (mkF m q l' (st))) : Ends p l e R s m args below meth c C S Q T (mkF m pc Ls (.double v :: st)) := step (fun _ h => by subst hq; exact XS.dstoreN X.here hx rfl hd rfl hl h) k
theorem dstore (X : Stand p l e R s m args below meth c T locs cells slots) (hx : p.tables.exec = Jvm.exec) {k0 : Nat} {v : UInt64} {l' : Array Slot} (hl : storeLocals Ls k0 (.double v) = some l') (hd : decode c.code pc = .ok (.dstore k0, 2)) (hq : pc + 2 = q) (k : Ends p l e R s m args below meth c C S Q T (mkF m q l' (st))) : Ends p l e R s m args below meth c C S Q T (mkF m pc Ls (.double v :: st)) := step (fun _ h => by subst hq; exact XS.dstore X.here hx rfl hd rfl hl h) k
theorem i2d (X : Stand p l e R s m args below meth c T locs cells slots) (hx : p.tables.exec = Jvm.exec) {x : Int32} (hd : decode c.code pc = .ok (.i2d, 1)) (hq : pc + 1 = q) (k : Ends p l e R s m args below meth c C S Q T (mkF m q Ls (.double (FP.i2d x) :: st))) : Ends p l e R s m args below meth c C S Q T (mkF m pc Ls (.int x :: st)) := step (fun _ h => by subst hq; exact XS.i2dS X.here hx rfl hd rfl rfl h) k
theorem b53_i (x : Int32) : B53 x.toInt64 := by
  have h := rng32 x
  unfold B53; rw [c_i2l]
  exact ⟨Int.lt_of_lt_of_le (by decide) h.1, Int.lt_trans h.2 (by decide)⟩
theorem dcmp_i (x y : Int32) (o : CmpOp) : cmpValue (FP.dcmp (FP.i2d x) (FP.i2d y)) o = lcmpW x.toInt64 y.toInt64 := by
  rw [i2d_w, i2d_w]; exact dcmpV_w (b53_i x) (b53_i y) o
theorem dcmpI (X : Stand p l e R s m args below meth c T locs cells slots) (hx : p.tables.exec = Jvm.exec) {o : CmpOp} {x y : Int32} (hd : decode c.code pc = .ok (.dcmp o, 1)) (hq : pc + 1 = q) (k : Ends p l e R s m args below meth c C S Q T (mkF m q Ls (.int (lcmpW x.toInt64 y.toInt64) :: st))) : Ends p l e R s m args below meth c C S Q T (mkF m pc Ls (.double (FP.i2d y) :: .double (FP.i2d x) :: st)) := step (fun _ h => by subst hq; exact XS.dcmpS X.here hx rfl hd rfl (dcmp_i x y o) h) k
theorem ldc2Long (X : Stand p l e R s m args below meth c T locs cells slots) (hx : p.tables.exec = Jvm.exec) {Z : State} {a0 : Array Value} (hZ : Z.Warmed39 s.vm) {own : String} (hown : s.vm.findClass own = some m.cls) {index : Nat} {v : Int64} (w : (Jvm.Cond.constantLong own index v).before a0 Z = true) (hd : decode c.code pc = .ok (.ldc2_w index, 3)) (hq : pc + 3 = q) (k : Ends p l e R s m args below meth c C S Q T (mkF m q Ls (.long v :: st))) : Ends p l e R s m args below meth c C S Q T (mkF m pc Ls st) := step (fun t h => by subst hq; exact X.ldc2Long hx hown (mvT hZ w) (g := mkF m pc Ls st) rfl hd t h) k
theorem ldcInt (X : Stand p l e R s m args below meth c T locs cells slots) (hx : p.tables.exec = Jvm.exec) {Z : State} {a0 : Array Value} (hZ : Z.Warmed39 s.vm) {own : String} (hown : s.vm.findClass own = some m.cls) {index : Nat} {v : Int32} (w : (Jvm.Cond.constant own index v).before a0 Z = true) (hd : decode c.code pc = .ok (.ldc index, 2)) (hq : pc + 2 = q) (k : Ends p l e R s m args below meth c C S Q T (mkF m q Ls (.int v :: st))) : Ends p l e R s m args below meth c C S Q T (mkF m pc Ls st) := step (fun t h => by subst hq; exact X.ldcInt hx hown (mvT hZ w) (g := mkF m pc Ls st) rfl hd t h) k
theorem retZ (X : Stand p l e R s m args below meth c T locs cells slots) (hx : p.tables.exec = Jvm.exec) {z : Int32} {t : FieldType} (hret : meth.sig.returnType = some t) (ht : t = .boolean ∨ t = .byte ∨ t = .char ∨ t = .short) (hd : decode c.code pc = .ok (.ireturn, 1)) (hQ : Q (some (.int (nar t z))) T.heap locs) (hc : cells ≤ C) (hs : slots ≤ S) : Ends p l e R s m args below meth c C S Q T (mkF m pc Ls (.int z :: st)) :=
  ⟨T, locs, cells, slots, _, X, hQ, hc, hs, (fun h => by rw [hret] at h; cases h), fun fs hl => retN X hx hret ht hd hl⟩
theorem retG (X : Stand p l e R s m args below meth c T locs cells slots) (hx : p.tables.exec = Jvm.exec) {w : Value} {t : FieldType} {i : Instr} (hret : meth.sig.returnType = some t) (hn : narrow t w = w)
    (hi : (i = .ireturn ∧ (t = .int ∨ t = .boolean ∨ t = .byte ∨ t = .char ∨ t = .short) ∧ ∃ z, w = .int z) ∨ (i = .lreturn ∧ t = .long ∧ ∃ z, w = .long z) ∨ (i = .dreturn ∧ t = .double ∧ ∃ z, w = .double z) ∨ (i = .freturn ∧ t = .float ∧ ∃ z, w = .float z) ∨ (i = .areturn ∧ t.isReference = true ∧ w.isRef = true)) (hd : decode c.code pc = .ok (i, 1)) (hQ : Q (some w) T.heap locs) (hc : cells ≤ C) (hs : slots ≤ S) : Ends p l e R s m args below meth c C S Q T (mkF m pc Ls (w :: st)) :=
  ⟨T, locs, cells, slots, _, X, hQ, hc, hs, (fun h => by rw [hret] at h; cases h), fun fs hl => retOut X hx hret hn hi hd hl⟩
theorem retI (X : Stand p l e R s m args below meth c T locs cells slots) (hx : p.tables.exec = Jvm.exec) {z : Int32} (hret : meth.sig.returnType = some .int) (hd : decode c.code pc = .ok (.ireturn, 1)) (hQ : Q (some (.int z)) T.heap locs) (hc : cells ≤ C) (hs : slots ≤ S) : Ends p l e R s m args below meth c C S Q T (mkF m pc Ls (.int z :: st)) := retG X hx hret rfl (Or.inl ⟨rfl, Or.inl rfl, z, rfl⟩) hd hQ hc hs
theorem retL (X : Stand p l e R s m args below meth c T locs cells slots) (hx : p.tables.exec = Jvm.exec) {z : Int64} (hret : meth.sig.returnType = some .long) (hd : decode c.code pc = .ok (.lreturn, 1)) (hQ : Q (some (.long z)) T.heap locs) (hc : cells ≤ C) (hs : slots ≤ S) : Ends p l e R s m args below meth c C S Q T (mkF m pc Ls (.long z :: st)) := retG X hx hret rfl (Or.inr (Or.inl ⟨rfl, rfl, z, rfl⟩)) hd hQ hc hs
theorem retA (X : Stand p l e R s m args below meth c T locs cells slots) (hx : p.tables.exec = Jvm.exec) {v : Value} {t : FieldType} (hret : meth.sig.returnType = some t) (ht : t.isReference = true) (hv : v.isRef = true) (hn : narrow t v = v) (hd : decode c.code pc = .ok (.areturn, 1)) (hQ : Q (some v) T.heap locs) (hc : cells ≤ C) (hs : slots ≤ S) : Ends p l e R s m args below meth c C S Q T (mkF m pc Ls (v :: st)) := retG X hx hret hn (Or.inr (Or.inr (Or.inr (Or.inr ⟨rfl, ht, hv⟩)))) hd hQ hc hs
theorem retV (X : Stand p l e R s m args below meth c T locs cells slots) (hx : p.tables.exec = Jvm.exec) (hret : meth.sig.returnType = none) (hd : decode c.code pc = .ok (.return_, 1)) (hQ : Q none T.heap locs) (hc : cells ≤ C) (hs : slots ≤ S) : Ends p l e R s m args below meth c C S Q T (mkF m pc Ls []) :=
  ⟨T, locs, cells, slots, none, X, hQ, hc, hs, (fun _ => rfl), fun fs hl => X.returnOut hx hret hd hl⟩
theorem callS (X : Stand p l e R s m args below meth c T locs cells slots) (hx : p.tables.exec = Jvm.exec) {Z : State} {a0 : Array Value} (hZ : Z.Warmed39 s.vm) {own : String} (hown : s.vm.findClass own = some m.cls) {index : Nat} {h : Heap} (eT : T.heap = h) {y : MethodName} {bytes : ByteArray} {maxL : Nat} {ret : Option FieldType} {rm : Room} {Qc : Option Value → Heap → List Loc → Prop} (w1 : (Jvm.Cond.methodLink own index y).before a0 Z = true) (w2 : (Jvm.Cond.static y).before a0 Z = true) (w3 : (Jvm.Cond.initialized y.cls).before a0 Z = true) (w4 : (Jvm.Cond.code y bytes maxL ret).before a0 Z = true) (hy : y.cls ≠ "java/lang/invoke/MethodHandle" ∧ y.cls ≠ "java/lang/invoke/VarHandle")
    {argsL : List Value} (hM : Pays l Z y bytes maxL ret [] rm argsL.toArray h Qc) (hsize : Ls.size = c.maxLocals) {ps : List FieldType} {rt : Option FieldType} (hsig : parseMethodDescriptor y.desc = some ⟨ps, rt⟩) (hlen : argsL.length = ps.length) {W : Nat} (hW : (rest.map fun v => v.category).sum ≤ W) (hf : rm.frames + 1 ≤ R.frames) (hl : W + (maxL + 11) + rm.locals ≤ R.locals) (hcc : cells + rm.cells ≤ R.cells) (hss : slots + rm.slots ≤ R.slots) (hst : st = argsL.reverse ++ rest) (hd : decode c.code pc = .ok (.invokestatic index, 3)) (hq : pc + 3 = q) (k : ∀ (T' : State) (v : Option Value) (L : List Loc), Stand p l e R s m args below meth c T' (locs ++ L) (cells + rm.cells) (slots + rm.slots) → Qc v T'.heap L → Ends p l e R s m args below meth c C S Q T' (mkF m q Ls (v.toList ++ rest))) : Ends p l e R s m args below meth c C S Q T (mkF m pc Ls st) := by
  obtain ⟨v, _, ⟨T', L', k', n'⟩, -, X', ⟨L, hQ, l1, y1, z1⟩, stp⟩ := Jvm.LawKit.callS X hx (y := y) hown (mvT hZ w1) (mvT hZ w2) (mvT hZ w3) (mvT hZ w4) hy (backOf (W := W) hM hZ w4 w3 hf hl) (g := mkF m pc Ls st) rfl hsize (argsL := argsL) (rest := rest) (lenOf hsig hlen) hst (by show 2 * 0 + _ ≤ _; omega) hd (fun _ _ => ⟨rfl, eT, hcc, hss⟩)
  dsimp only [Pt.U, Pt.locs, Pt.cells, Pt.slots] at X' l1 y1 z1 stp hQ
  subst l1 y1 z1 hq
  exact step stp (k T' v L X' hQ)
theorem callI (X : Stand p l e R s m args below meth c T locs cells slots) (hx : p.tables.exec = Jvm.exec) {Z : State} {a0 : Array Value} (hZ : Z.Warmed39 s.vm) {own : String} (hown : s.vm.findClass own = some m.cls) {index : Nat} {h : Heap} (eT : T.heap = h) {y : MethodName} {bytes : ByteArray} {maxL : Nat} {rm : Room} {Qc : Option Value → Heap → List Loc → Prop} (hy1 : y.name = "<init>") (w1 : (Jvm.Cond.methodLink own index y).before a0 Z = true) (w2 : (Jvm.Cond.instanceMethod y).before a0 Z = true) (w3 : (Jvm.Cond.initialized y.cls).before a0 Z = true) (w4 : (Jvm.Cond.code y bytes maxL none).before a0 Z = true) (hy : y.cls ≠ "java/lang/invoke/MethodHandle" ∧ y.cls ≠ "java/lang/invoke/VarHandle")
    {a : Addr} {argsL : List Value} (hM : Pays l Z y bytes maxL none [] rm (Value.ref a :: argsL).toArray h Qc) (hsize : Ls.size = c.maxLocals) {ps : List FieldType} {rt : Option FieldType} (hsig : parseMethodDescriptor y.desc = some ⟨ps, rt⟩) (hlen : argsL.length = ps.length) {W : Nat} (hW : (rest.map fun v => v.category).sum ≤ W) (hf : rm.frames + 1 ≤ R.frames) (hl : W + (maxL + 11) + rm.locals ≤ R.locals) (hcc : cells + rm.cells ≤ R.cells) (hss : slots + rm.slots ≤ R.slots) (hst : st = argsL.reverse ++ .ref a :: rest) (hd : decode c.code pc = .ok (.invokespecial index, 3)) (hq : pc + 3 = q) (k : ∀ (T' : State) (v : Option Value) (L : List Loc), Stand p l e R s m args below meth c T' (locs ++ L) (cells + rm.cells) (slots + rm.slots) → Qc v T'.heap L → Ends p l e R s m args below meth c C S Q T' (mkF m q Ls (v.toList ++ rest))) : Ends p l e R s m args below meth c C S Q T (mkF m pc Ls st) := by
  obtain ⟨v, _, ⟨T', L', k', n'⟩, -, X', ⟨L, hQ, l1, y1, z1⟩, stp⟩ := X.specialBack hx (y := y) hy1 hown (mvT hZ w1) (mvT hZ w2) (mvT hZ w4) hy (backOf (W := W) hM hZ w4 w3 hf hl) (g := mkF m pc Ls st) rfl hsize (Steps.refl _) (a := a) (argsL := argsL) (rest := rest) (lenOf hsig hlen) hst (by show 2 * 0 + _ ≤ _; omega) hd (fun _ _ => ⟨rfl, eT, hcc, hss⟩)
  dsimp only [Pt.U, Pt.locs, Pt.cells, Pt.slots] at X' l1 y1 z1 stp hQ
  subst l1 y1 z1 hq
  exact step (fun _ h => stp.trans h) (k T' v L X' hQ)
theorem callV (X : Stand p l e R s m args below meth c T locs cells slots) (hx : p.tables.exec = Jvm.exec) {Z : State} {a0 : Array Value} (hZ : Z.Warmed39 s.vm) {own : String} (hown : s.vm.findClass own = some m.cls) {index : Nat} {h : Heap} (eT : T.heap = h) {y z : MethodName} {K : String} {bytes : ByteArray} {maxL : Nat} {ret : Option FieldType} {rm : Room} {Qc : Option Value → Heap → List Loc → Prop} (w1 : (Jvm.Cond.methodLink own index y).before a0 Z = true) (w2 : (Jvm.Cond.declares y).before a0 Z = true) (hnf : NotFace s y) (w5 : (Jvm.Cond.selects K y z).before a0 Z = true) (w6 : (Jvm.Cond.instanceMethod z).before a0 Z = true) (w3 : (Jvm.Cond.initialized z.cls).before a0 Z = true) (w4 : (Jvm.Cond.code z bytes maxL ret).before a0 Z = true) (hy : y.cls ≠ "java/lang/invoke/MethodHandle" ∧ y.cls ≠ "java/lang/invoke/VarHandle")
    {a : Addr} (E : Exa Z h a K) {argsL : List Value} (hM : Pays l Z z bytes maxL ret [] rm (Value.ref a :: argsL).toArray h Qc) (hsize : Ls.size = c.maxLocals) {ps : List FieldType} {rt : Option FieldType} (hsig : parseMethodDescriptor y.desc = some ⟨ps, rt⟩) (hlen : argsL.length = ps.length) {W : Nat} (hW : (rest.map fun v => v.category).sum ≤ W) (hf : rm.frames + 1 ≤ R.frames) (hl : W + (maxL + 11) + rm.locals ≤ R.locals) (hcc : cells + rm.cells ≤ R.cells) (hss : slots + rm.slots ≤ R.slots) (hst : st = argsL.reverse ++ .ref a :: rest) (hd : decode c.code pc = .ok (.invokevirtual index, 3)) (hq : pc + 3 = q) (k : ∀ (T' : State) (v : Option Value) (L : List Loc), Stand p l e R s m args below meth c T' (locs ++ L) (cells + rm.cells) (slots + rm.slots) → Qc v T'.heap L → Ends p l e R s m args below meth c C S Q T' (mkF m q Ls (v.toList ++ rest))) : Ends p l e R s m args below meth c C S Q T (mkF m pc Ls st) := by
  obtain ⟨cq, kq, qa, qb, qc⟩ := isOf hZ eT E
  obtain ⟨v, _, ⟨T', L', k', n'⟩, -, X', ⟨L, hQ, l1, y1, z1⟩, stp⟩ := X.virtualBack hx (y := y) (z := z) hown (mvT hZ w1) (mvT hZ w2) hnf (mvT hZ w5) (mvT hZ w6) hy (backOf (W := W) hM hZ w4 w3 hf hl) qa qc (g := mkF m pc Ls st) rfl hsize (Steps.refl _) (argsL := argsL) (rest := rest) (lenOf hsig hlen) hst (by show 2 * 0 + _ ≤ _; omega) hd (fun _ _ => ⟨rfl, eT, hcc, hss⟩)
  dsimp only [Pt.U, Pt.locs, Pt.cells, Pt.slots] at X' l1 y1 z1 stp hQ
  subst l1 y1 z1 hq
  exact step (fun _ h => stp.trans h) (k T' v L X' hQ)
theorem pureK {T' : State} {v V : Option Value} {h : Heap} {L : List Loc} (X' : Stand p l e R s m args below meth c T' (locs ++ L) (cells + 0) (slots + 0)) (hQ : RetQ V h v T'.heap L) : Stand p l e R s m args below meth c T' locs cells slots ∧ T'.heap = h ∧ v = V := by
  obtain ⟨h1, h2, rfl⟩ := hQ
  rw [List.append_nil] at X'
  exact ⟨X', h2, h1⟩
theorem iteP {α : Type} {P : α → Prop} {c : Prop} [Decidable c] {a b : α} (h1 : P a) (h2 : P b) : P (if c then a else b) := by split <;> assumption
theorem cat_of {v : Value} (h : v.isRef = true) : v.category = 1 := by rcases ref_cases h with rfl | ⟨a, rfl⟩ <;> rfl
theorem c_t {cd : ClassFile.Cond} {x : Int32} {b : Bool} (h : if_icmp.holds cd x 0 = b) : ifCond.holds cd x = b := (if0 cd x).trans h
theorem Ext_trans {h0 h h' : Heap} (E : Ext h0 h) (E' : Ext h h') : Ext h0 h' := ⟨Nat.le_trans E.1 E'.1, fun a c q => E'.2 a c (E.2 a c q)⟩
theorem Ext_wr {h0 h h' : Heap} {a : Addr} {sl : Nat} {v : Value} (E : Ext h0 h) (W : Wr h h' a sl v) (q : h0.size ≤ a) : Ext h0 h' :=
  ⟨Nat.le_trans E.1 (Keep.of_wr W).1, fun b c r => (Keep.of_wr W).2.1 b c (E.2 b c r) (ninS (Nat.ne_of_lt (Nat.lt_of_lt_of_le (Array.getElem?_eq_some_iff.mp r).1 q)) nin0)⟩
theorem Ext_keep {h0 h h' : Heap} {ws : List Addr} (E : Ext h0 h) (K : Keep h h' ws) (q : ∀ x ∈ ws, h0.size ≤ x) : Ext h0 h' :=
  ⟨Nat.le_trans E.1 K.1, fun b c r => K.2.1 b c (E.2 b c r) fun z => absurd (Array.getElem?_eq_some_iff.mp r).1 (Nat.not_lt.mpr (q b z))⟩
theorem rr_t {a b : Addr} (h : a = b) : decide ((Value.ref a : Value) = .ref b) = true := decide_eq_true (congrArg Value.ref h)
theorem rr_f {a b : Addr} (h : ¬ a = b) : decide ((Value.ref a : Value) = .ref b) = false := decide_eq_false fun q => h (Value.ref.inj q)
theorem l_t {x y : Int64} (h : x < y) : lcmpW x y < 0 := (lw_lt x y).mpr h
theorem l_f {x y : Int64} (h : ¬ x < y) : ¬ lcmpW x y < 0 := fun q => h ((lw_lt x y).mp q)
theorem g_t {x y : Int64} (h : y < x) : 0 < lcmpW x y := (lw_gt x y).mpr h
theorem g_f {x y : Int64} (h : ¬ y < x) : ¬ 0 < lcmpW x y := fun q => h ((lw_gt x y).mp q)
theorem e_t {x y : Int64} (h : x = y) : lcmpW x y = 0 := (lw_eq x y).mpr h
theorem e_f {x y : Int64} (h : ¬ x = y) : ¬ lcmpW x y = 0 := fun q => h ((lw_eq x y).mp q)
end
end Jvm.EKit
namespace Jvm.EKit
open Sem ClassFile Op Lib Jvm.Stand Jvm.Free Jvm.LawKit Jvm.RoadKit
/-- the array at a: its class, kind, length, and what lies at each place -/
def Ary (Z : State) (h : Heap) (a : Addr) (k : ClassId) (ty : FieldType) (n : Int32) (f : Int32 → Value) : Prop :=
  ∃ cl : Cell, Arr Z h a cl ty ∧ cl.cls = k ∧ cl.slots.size = n.toNatClampNeg ∧ ¬ n < 0 ∧ ∀ j : Int32, ¬ j < 0 → j < n → cl.slots[j.toNatClampNeg]? = some (f j)
section
variable {Z : State} {h h' : Heap} {a b : Addr} {k : ClassId} {ty : FieldType} {n : Int32} {f : Int32 → Value}
theorem Ary.lt (F : Ary Z h a k ty n f) : a < h.size := by obtain ⟨cl, A, -⟩ := F; exact A.lt
theorem Ary.ext (F : Ary Z h a k ty n f) (E : Ext h h') : Ary Z h' a k ty n f := by obtain ⟨cl, A, r⟩ := F; exact ⟨cl, A.ext E, r⟩
theorem Ary.other {sl : Nat} {v : Value} (F : Ary Z h b k ty n f) (W : Wr h h' a sl v) (q : b ≠ a) : Ary Z h' b k ty n f := by obtain ⟨cl, A, r⟩ := F; exact ⟨cl, A.other W q, r⟩
theorem Ary.keep {ws : List Addr} (F : Ary Z h a k ty n f) (K : Keep h h' ws) (q : a ∉ ws) : Ary Z h' a k ty n f := by obtain ⟨cl, A, r⟩ := F; exact ⟨cl, ⟨K.2.1 a cl A.1 q, A.2⟩, r⟩
theorem Ary.new (A : Arr Z h a (newA k ty n) ty) (q : ¬ n < 0) : Ary Z h a k ty n (fun _ => defaultValue ty) :=
  ⟨_, A, rfl, sz_new _ _ _, q, fun j h1 h2 => get_new (by rw [← sz_new k ty n]; exact inb_of (sz_new k ty n) ⟨h1, h2⟩)⟩
theorem Ary.eq {g : Int32 → Value} (F : Ary Z h a k ty n f) (q : ∀ j : Int32, ¬ j < 0 → j < n → f j = g j) : Ary Z h a k ty n g := by
  obtain ⟨cl, A, r1, r2, r3, r4⟩ := F; exact ⟨cl, A, r1, r2, r3, fun j h1 h2 => (r4 j h1 h2).trans (congrArg some (q j h1 h2))⟩
theorem evalEq {args : Array Value} {first s : State} {o : Option Outcome} {idx : List Nat} {t u : Jvm.Term} {v : Value} (h : (Jvm.Cond.eq t u).value args first o s idx = some true) (hu : u.eval args first o idx s = some v) : t.eval args first o idx s = some v := by
  simp only [Cond.value, hu] at h
  cases ht : t.eval args first o idx s with
  | none => simp [ht] at h
  | some w => cases w <;> cases v <;> simp [ht] at h <;> simp [h]
theorem evalLen {args : Array Value} {first s : State} {o : Option Outcome} {idx : List Nat} {t : Jvm.Term} {x : Addr} {cl : Cell} {z : Int32} (h : (Jvm.Term.length t).eval args first o idx s = some (.int z)) (ht : t.eval args first o idx s = some (.ref x)) (A : Arr s s.heap x cl ty) : cl.slots.size = z.toNatClampNeg ∧ ¬ z < 0 := by
  have ha := A.fin (U := s) (Vm.Alike.refl _)
  simp only [Term.eval, ht, ha, Option.bind_eq_bind, Option.bind_some] at h
  by_cases hl : cl.slots.size < 2 ^ 31
  · simp [hl] at h
    subst h
    have e : cl.slots.size.toInt32.toInt = cl.slots.size := len_toInt hl
    refine ⟨by simp only [Int32.toNatClampNeg, e]; rfl, ?_⟩
    rw [Int32.lt_iff_toInt_lt, e]; exact Int.not_lt.mpr (Int.natCast_nonneg _)
  · simp [hl] at h
theorem Ary.start {cl : Cell} (A : Arr Z h a cl ty) (r2 : cl.slots.size = n.toNatClampNeg) (r3 : ¬ n < 0) (r4 : ∀ i : Nat, i < n.toNatClampNeg → cl.slots[i]? = some (f (Int32.ofNat i))) : Ary Z h a cl.cls ty n f := by
  refine ⟨cl, A, rfl, r2, r3, fun j h1 h2 => ?_⟩
  have e := back32 h1
  have q := r4 j.toNatClampNeg (by
    rw [Int32.lt_iff_toInt_lt] at h1 h2
    rw [show (0 : Int32).toInt = 0 from rfl] at h1
    simp only [Int32.toNatClampNeg]; omega)
  rw [q]; exact congrArg (fun z => some (f z)) e.1
theorem clamp_inj {i j : Int32} (hi : ¬ i < 0) (hj : ¬ j < 0) (q : i.toNatClampNeg = j.toNatClampNeg) : i = j := by
  rw [Int32.lt_iff_toInt_lt, show (0 : Int32).toInt = 0 from rfl] at hi hj
  apply Int32.toInt_inj.mp
  have e1 : i.toNatClampNeg = i.toInt.toNat := rfl
  have e2 : j.toNatClampNeg = j.toInt.toNat := rfl
  omega
theorem Ary.set {cl : Cell} {i : Int32} {v : Value} (A : Arr Z h a cl ty) (r1 : cl.cls = k) (r2 : cl.slots.size = n.toNatClampNeg) (r3 : ¬ n < 0) (r4 : ∀ j : Int32, ¬ j < 0 → j < n → cl.slots[j.toNatClampNeg]? = some (f j)) (hi : ¬ i < 0) (hn : i < n) (W : Wr h h' a i.toNatClampNeg v) : Ary Z h' a k ty n (fun j => if j = i then v else f j) := by
  refine ⟨_, A.same W, r1, (sz_set _ _ _).trans r2, r3, fun j h1 h2 => ?_⟩
  by_cases q : j = i
  · exact (get_hit (inb_of r2 ⟨hi, hn⟩) q).trans (congrArg some (if_pos q).symm)
  · exact ((get_miss hi h1 q).trans (r4 j h1 h2)).trans (congrArg some (if_neg q).symm)
end
section
variable {p : Program} {l : Launch} {e : Env} {R : Room} {s : State} {m : MethodId} {args : Array Value} {below : List Frame} {meth : Method} {c : Code} {T : State} {locs : List Loc} {cells slots : Nat} {C S : Nat} {Q : Option Value → Heap → List Loc → Prop} {pc q : Nat} {Ls : Array Slot} {st : List Value} {Z : State} {h : Heap} {a : Addr} {k : ClassId} {n j : Int32} {f : Int32 → Value}

theorem alen (X : Stand p l e R s m args below meth c T locs cells slots) (hx : p.tables.exec = Jvm.exec) (hZ : Z.Warmed39 s.vm) (eT : T.heap = h) {ty : FieldType} (F : Ary Z h a k ty n f) (hd : decode c.code pc = .ok (.arraylength, 1)) (hq : pc + 1 = q) (kk : Ends p l e R s m args below meth c C S Q T (mkF m q Ls (.int n :: st))) : Ends p l e R s m args below meth c C S Q T (mkF m pc Ls (.ref a :: st)) := by
  obtain ⟨cl, A, r1, r2, r3, r4⟩ := F
  subst hq
  exact step (fun t h => X.arraylength hx (by rw [eT]; exact A.1) (State.isArrayOf_alike hZ.alike A.2.1) (g := mkF m pc Ls (.ref a :: st)) rfl rfl hd t (by rw [len_of r2 r3]; exact h)) kk
theorem iaload (X : Stand p l e R s m args below meth c T locs cells slots) (hx : p.tables.exec = Jvm.exec) (hZ : Z.Warmed39 s.vm) (eT : T.heap = h) (F : Ary Z h a k .int n f) (h1 : ¬ j < 0) (h2 : j < n) {v : Value} (hv : f j = v) (hd : decode c.code pc = .ok (.iaload, 1)) (hq : pc + 1 = q) (kk : Ends p l e R s m args below meth c C S Q T (mkF m q Ls (v :: st))) : Ends p l e R s m args below meth c C S Q T (mkF m pc Ls (.int j :: .ref a :: st)) := by
  obtain ⟨cl, A, r1, r2, r3, r4⟩ := F
  subst hq hv
  exact step (fun t h => X.iaload hx (by rw [eT]; exact A.1) (State.isArrayOf_alike hZ.alike A.2.1) A.2.2 (inb_of r2 ⟨h1, h2⟩) (r4 j h1 h2) (g := mkF m pc Ls (.int j :: .ref a :: st)) rfl rfl hd t h) kk
theorem laload (X : Stand p l e R s m args below meth c T locs cells slots) (hx : p.tables.exec = Jvm.exec) (hZ : Z.Warmed39 s.vm) (eT : T.heap = h) (F : Ary Z h a k .long n f) (h1 : ¬ j < 0) (h2 : j < n) {v : Value} (hv : f j = v) (hd : decode c.code pc = .ok (.laload, 1)) (hq : pc + 1 = q) (kk : Ends p l e R s m args below meth c C S Q T (mkF m q Ls (v :: st))) : Ends p l e R s m args below meth c C S Q T (mkF m pc Ls (.int j :: .ref a :: st)) := by
  obtain ⟨cl, A, r1, r2, r3, r4⟩ := F
  subst hq hv
  exact step (fun t h => X.laload hx (by rw [eT]; exact A.1) (State.isArrayOf_alike hZ.alike A.2.1) A.2.2 (inb_of r2 ⟨h1, h2⟩) (r4 j h1 h2) (g := mkF m pc Ls (.int j :: .ref a :: st)) rfl rfl hd t h) kk
theorem caload (X : Stand p l e R s m args below meth c T locs cells slots) (hx : p.tables.exec = Jvm.exec) (hZ : Z.Warmed39 s.vm) (eT : T.heap = h) (F : Ary Z h a k .char n f) (h1 : ¬ j < 0) (h2 : j < n) {v : Value} (hv : f j = v) (hd : decode c.code pc = .ok (.caload, 1)) (hq : pc + 1 = q) (kk : Ends p l e R s m args below meth c C S Q T (mkF m q Ls (v :: st))) : Ends p l e R s m args below meth c C S Q T (mkF m pc Ls (.int j :: .ref a :: st)) := by
  obtain ⟨cl, A, r1, r2, r3, r4⟩ := F
  subst hq hv
  exact step (fun t h => X.caload hx (by rw [eT]; exact A.1) (State.isArrayOf_alike hZ.alike A.2.1) A.2.2 (inb_of r2 ⟨h1, h2⟩) (r4 j h1 h2) (g := mkF m pc Ls (.int j :: .ref a :: st)) rfl rfl hd t h) kk
theorem baloadB (X : Stand p l e R s m args below meth c T locs cells slots) (hx : p.tables.exec = Jvm.exec) (hZ : Z.Warmed39 s.vm) (eT : T.heap = h) (F : Ary Z h a k .byte n f) (h1 : ¬ j < 0) (h2 : j < n) {v : Value} (hv : f j = v) (hd : decode c.code pc = .ok (.baload, 1)) (hq : pc + 1 = q) (kk : Ends p l e R s m args below meth c C S Q T (mkF m q Ls (v :: st))) : Ends p l e R s m args below meth c C S Q T (mkF m pc Ls (.int j :: .ref a :: st)) := by
  obtain ⟨cl, A, r1, r2, r3, r4⟩ := F
  subst hq hv
  exact step (fun t h => X.baloadBytes hx (by rw [eT]; exact A.1) (State.isArrayOf_alike hZ.alike A.2.1) A.2.2 (inb_of r2 ⟨h1, h2⟩) (r4 j h1 h2) (g := mkF m pc Ls (.int j :: .ref a :: st)) rfl rfl hd t h) kk
theorem baloadZ (X : Stand p l e R s m args below meth c T locs cells slots) (hx : p.tables.exec = Jvm.exec) (hZ : Z.Warmed39 s.vm) (eT : T.heap = h) (F : Ary Z h a k .boolean n f) (h1 : ¬ j < 0) (h2 : j < n) {v : Value} (hv : f j = v) (hd : decode c.code pc = .ok (.baload, 1)) (hq : pc + 1 = q) (kk : Ends p l e R s m args below meth c C S Q T (mkF m q Ls (v :: st))) : Ends p l e R s m args below meth c C S Q T (mkF m pc Ls (.int j :: .ref a :: st)) := by
  obtain ⟨cl, A, r1, r2, r3, r4⟩ := F
  subst hq hv
  exact step (fun t h => X.baloadBooleans hx (by rw [eT]; exact A.1) (State.isArrayOf_alike hZ.alike A.2.1) A.2.2 (inb_of r2 ⟨h1, h2⟩) (r4 j h1 h2) (g := mkF m pc Ls (.int j :: .ref a :: st)) rfl rfl hd t h) kk
theorem aaload (X : Stand p l e R s m args below meth c T locs cells slots) (hx : p.tables.exec = Jvm.exec) (hZ : Z.Warmed39 s.vm) (eT : T.heap = h) {ty : FieldType} (hty : ty.isReference = true) (F : Ary Z h a k ty n f) (h1 : ¬ j < 0) (h2 : j < n) {v : Value} (hv : f j = v) (hd : decode c.code pc = .ok (.aaload, 1)) (hq : pc + 1 = q) (kk : Ends p l e R s m args below meth c C S Q T (mkF m q Ls (v :: st))) : Ends p l e R s m args below meth c C S Q T (mkF m pc Ls (.int j :: .ref a :: st)) := by
  obtain ⟨cl, A, r1, r2, r3, r4⟩ := F
  subst hq hv
  exact step (fun t h => X.aaload hx (by rw [eT]; exact A.1) (State.isArrayOf_alike hZ.alike A.2.1) hty A.2.2 (inb_of r2 ⟨h1, h2⟩) (r4 j h1 h2) (g := mkF m pc Ls (.int j :: .ref a :: st)) rfl rfl hd t h) kk
theorem iastore (X : Stand p l e R s m args below meth c T locs cells slots) (hx : p.tables.exec = Jvm.exec) (hZ : Z.Warmed39 s.vm) (eT : T.heap = h) (F : Ary Z h a k .int n f) {x : Int32} (h1 : ¬ j < 0) (h2 : j < n) (hd : decode c.code pc = .ok (.iastore, 1)) (hq : pc + 1 = q)
    (kk : ∀ (T' : State) (h' : Heap), Stand p l e R s m args below meth c T' (locs ++ [⟨a, j.toNatClampNeg⟩]) cells slots → T'.heap = h' → Wr h h' a j.toNatClampNeg (.int x) → Ary Z h' a k .int n (fun i => if i = j then .int x else f i) → Ends p l e R s m args below meth c C S Q T' (mkF m q Ls st)) : Ends p l e R s m args below meth c C S Q T (mkF m pc Ls (.int x :: .int j :: .ref a :: st)) := by
  obtain ⟨cl, A, r1, r2, r3, r4⟩ := F
  obtain ⟨T', h', X', e', W', stp⟩ := stI X hx hZ eT A (j := j) (x := x) (inb_of r2 ⟨h1, h2⟩) (g := mkF m pc Ls (.int x :: .int j :: .ref a :: st)) rfl rfl hd
  subst hq
  exact step stp (kk T' h' X' e' W' (Ary.set A r1 r2 r3 r4 h1 h2 W'))
theorem lastore (X : Stand p l e R s m args below meth c T locs cells slots) (hx : p.tables.exec = Jvm.exec) (hZ : Z.Warmed39 s.vm) (eT : T.heap = h) (F : Ary Z h a k .long n f) {x : Int64} (h1 : ¬ j < 0) (h2 : j < n) (hd : decode c.code pc = .ok (.lastore, 1)) (hq : pc + 1 = q)
    (kk : ∀ (T' : State) (h' : Heap), Stand p l e R s m args below meth c T' (locs ++ [⟨a, j.toNatClampNeg⟩]) cells slots → T'.heap = h' → Wr h h' a j.toNatClampNeg (.long x) → Ary Z h' a k .long n (fun i => if i = j then .long x else f i) → Ends p l e R s m args below meth c C S Q T' (mkF m q Ls st)) : Ends p l e R s m args below meth c C S Q T (mkF m pc Ls (.long x :: .int j :: .ref a :: st)) := by
  obtain ⟨cl, A, r1, r2, r3, r4⟩ := F
  obtain ⟨T', h', X', e', W', stp⟩ := stJ X hx hZ eT A (j := j) (x := x) (inb_of r2 ⟨h1, h2⟩) (g := mkF m pc Ls (.long x :: .int j :: .ref a :: st)) rfl rfl hd
  subst hq
  exact step stp (kk T' h' X' e' W' (Ary.set A r1 r2 r3 r4 h1 h2 W'))
theorem castore (X : Stand p l e R s m args below meth c T locs cells slots) (hx : p.tables.exec = Jvm.exec) (hZ : Z.Warmed39 s.vm) (eT : T.heap = h) (F : Ary Z h a k .char n f) {x : Int32} (h1 : ¬ j < 0) (h2 : j < n) (hd : decode c.code pc = .ok (.castore, 1)) (hq : pc + 1 = q)
    (kk : ∀ (T' : State) (h' : Heap), Stand p l e R s m args below meth c T' (locs ++ [⟨a, j.toNatClampNeg⟩]) cells slots → T'.heap = h' → Wr h h' a j.toNatClampNeg (.int (nar .char x)) → Ary Z h' a k .char n (fun i => if i = j then .int (nar .char x) else f i) → Ends p l e R s m args below meth c C S Q T' (mkF m q Ls st)) : Ends p l e R s m args below meth c C S Q T (mkF m pc Ls (.int x :: .int j :: .ref a :: st)) := by
  obtain ⟨cl, A, r1, r2, r3, r4⟩ := F
  obtain ⟨T', h', X', e', W', stp⟩ := stC X hx hZ eT A (j := j) (x := x) (inb_of r2 ⟨h1, h2⟩) (g := mkF m pc Ls (.int x :: .int j :: .ref a :: st)) rfl rfl hd
  subst hq
  exact step stp (kk T' h' X' e' W' (Ary.set A r1 r2 r3 r4 h1 h2 W'))
theorem bastoreB (X : Stand p l e R s m args below meth c T locs cells slots) (hx : p.tables.exec = Jvm.exec) (hZ : Z.Warmed39 s.vm) (eT : T.heap = h) (F : Ary Z h a k .byte n f) {x : Int32} (h1 : ¬ j < 0) (h2 : j < n) (hd : decode c.code pc = .ok (.bastore, 1)) (hq : pc + 1 = q)
    (kk : ∀ (T' : State) (h' : Heap), Stand p l e R s m args below meth c T' (locs ++ [⟨a, j.toNatClampNeg⟩]) cells slots → T'.heap = h' → Wr h h' a j.toNatClampNeg (.int (nar .byte x)) → Ary Z h' a k .byte n (fun i => if i = j then .int (nar .byte x) else f i) → Ends p l e R s m args below meth c C S Q T' (mkF m q Ls st)) : Ends p l e R s m args below meth c C S Q T (mkF m pc Ls (.int x :: .int j :: .ref a :: st)) := by
  obtain ⟨cl, A, r1, r2, r3, r4⟩ := F
  obtain ⟨T', h', X', e', W', stp⟩ := stB X hx hZ eT A (j := j) (x := x) (inb_of r2 ⟨h1, h2⟩) (g := mkF m pc Ls (.int x :: .int j :: .ref a :: st)) rfl rfl hd
  subst hq
  exact step stp (kk T' h' X' e' W' (Ary.set A r1 r2 r3 r4 h1 h2 W'))
theorem bastoreZ (X : Stand p l e R s m args below meth c T locs cells slots) (hx : p.tables.exec = Jvm.exec) (hZ : Z.Warmed39 s.vm) (eT : T.heap = h) (F : Ary Z h a k .boolean n f) {x : Int32} (h1 : ¬ j < 0) (h2 : j < n) (hd : decode c.code pc = .ok (.bastore, 1)) (hq : pc + 1 = q)
    (kk : ∀ (T' : State) (h' : Heap), Stand p l e R s m args below meth c T' (locs ++ [⟨a, j.toNatClampNeg⟩]) cells slots → T'.heap = h' → Wr h h' a j.toNatClampNeg (.int (nar .boolean x)) → Ary Z h' a k .boolean n (fun i => if i = j then .int (nar .boolean x) else f i) → Ends p l e R s m args below meth c C S Q T' (mkF m q Ls st)) : Ends p l e R s m args below meth c C S Q T (mkF m pc Ls (.int x :: .int j :: .ref a :: st)) := by
  obtain ⟨cl, A, r1, r2, r3, r4⟩ := F
  obtain ⟨T', h', X', e', W', stp⟩ := stZ X hx hZ eT A (j := j) (x := x) (inb_of r2 ⟨h1, h2⟩) (g := mkF m pc Ls (.int x :: .int j :: .ref a :: st)) rfl rfl hd
  subst hq
  exact step stp (kk T' h' X' e' W' (Ary.set A r1 r2 r3 r4 h1 h2 W'))
theorem aastore (X : Stand p l e R s m args below meth c T locs cells slots) (hx : p.tables.exec = Jvm.exec) (hZ : Z.Warmed39 s.vm) (eT : T.heap = h) {K : String} (F : Ary Z h a k (.object K) n f) (O : Ovr Z k K) {b : Addr} (I : Ins Z h b K true) (h1 : ¬ j < 0) (h2 : j < n) (hd : decode c.code pc = .ok (.aastore, 1)) (hq : pc + 1 = q)
    (kk : ∀ (T' : State) (h' : Heap), Stand p l e R s m args below meth c T' (locs ++ [⟨a, j.toNatClampNeg⟩]) cells slots → T'.heap = h' → Wr h h' a j.toNatClampNeg (.ref b) → Ary Z h' a k (.object K) n (fun i => if i = j then .ref b else f i) → Ends p l e R s m args below meth c C S Q T' (mkF m q Ls st)) : Ends p l e R s m args below meth c C S Q T (mkF m pc Ls (.ref b :: .int j :: .ref a :: st)) := by
  obtain ⟨cl, A, r1, r2, r3, r4⟩ := F
  subst r1
  obtain ⟨T', h', X', e', W', stp⟩ := stR X hx hZ eT A (j := j) (v := .ref b) (inb_of r2 ⟨h1, h2⟩) rfl (Sto.of A O I) (g := mkF m pc Ls (.ref b :: .int j :: .ref a :: st)) rfl rfl hd
  subst hq
  exact step stp (kk T' h' X' e' W' (Ary.set A rfl r2 r3 r4 h1 h2 W'))
theorem newarr (X : Stand p l e R s m args below meth c T locs cells slots) (hx : p.tables.exec = Jvm.exec) (hZ : Z.Warmed39 s.vm) {a0 : Array Value} (eT : T.heap = h) {aty : ArrayType} (w : (Jvm.Cond.arrayClass (newarray.typeOf aty)).before a0 Z = true) (hn : ¬ n < 0) {cap : Nat} (hcap : n.toNatClampNeg ≤ cap) (hb : cap * 8 ≤ 536870912) (hc : cells + 1 ≤ R.cells) (hl : slots + cap ≤ R.slots) (hd : decode c.code pc = .ok (.newarray aty, 2)) (hq : pc + 2 = q)
    (kk : ∀ (T' : State) (h' : Heap) (b : Addr) (k : ClassId), Stand p l e R s m args below meth c T' locs (cells + 1) (slots + cap) → T'.heap = h' → Ext h h' → b = h.size → Ary Z h' b k (newarray.typeOf aty) n (fun _ => defaultValue (newarray.typeOf aty)) → Ends p l e R s m args below meth c C S Q T' (mkF m q Ls (.ref b :: st))) : Ends p l e R s m args below meth c C S Q T (mkF m pc Ls (.int n :: st)) := by
  obtain ⟨T', h', k', X', e', E', A', stp⟩ := newP X hx hZ w eT (g := mkF m pc Ls (.int n :: st)) rfl hd rfl hn (cap := cap) hcap hb hc hl
  subst hq
  exact step stp (kk T' h' h.size k' X' e' E' rfl (Ary.new A' hn))
theorem newref (X : Stand p l e R s m args below meth c T locs cells slots) (hx : p.tables.exec = Jvm.exec) (hZ : Z.Warmed39 s.vm) {a0 : Array Value} {own K : String} {index : Nat} (hown : s.vm.findClass own = some m.cls) (eT : T.heap = h) (w1 : (Jvm.Cond.classLink own index K).before a0 Z = true) (w2 : (Jvm.Cond.arrayOver (.object K)).before a0 Z = true) (hn : ¬ n < 0) {cap : Nat} (hcap : n.toNatClampNeg ≤ cap) (hb : cap * 8 ≤ 536870912) (hc : cells + 1 ≤ R.cells) (hl : slots + cap ≤ R.slots) (hd : decode c.code pc = .ok (.anewarray index, 3)) (hq : pc + 3 = q)
    (kk : ∀ (T' : State) (h' : Heap) (b : Addr) (k : ClassId), Stand p l e R s m args below meth c T' locs (cells + 1) (slots + cap) → T'.heap = h' → Ext h h' → b = h.size → Ovr Z k K → Ary Z h' b k (.object K) n (fun _ => .null) → Ends p l e R s m args below meth c C S Q T' (mkF m q Ls (.ref b :: st))) : Ends p l e R s m args below meth c C S Q T (mkF m pc Ls (.int n :: st)) := by
  obtain ⟨T', h', k', X', e', E', A', O', stp⟩ := newR X hx hZ hown w1 w2 eT (g := mkF m pc Ls (.int n :: st)) rfl hd rfl hn (cap := cap) hcap hb hc hl
  subst hq
  exact step stp (kk T' h' h.size k' X' e' E' rfl O' (Ary.new A' hn))
end
end Jvm.EKit
namespace Jvm.Pilot.@@N@@
open Jvm Jvm.ClassFile Sem Op Lib Jvm.Free Jvm.Stand Jvm.LawKit Jvm.RoadKit Bundle Jvm.Pilot.@@N@@.Jvm.D Jvm.EKit
def own_pow (i : Int32) : Int64 := if i = 18 then 1000000000000000000 else if i = 17 then 100000000000000000 else if i = 16 then 10000000000000000 else if i = 15 then 1000000000000000 else if i = 14 then 100000000000000 else if i = 13 then 10000000000000 else if i = 12 then 1000000000000 else if i = 11 then 100000000000 else if i = 10 then 10000000000 else if i = 9 then 1000000000 else if i = 8 then 100000000 else if i = 7 then 10000000 else if i = 6 then 1000000 else if i = 5 then 100000 else if i = 4 then 10000 else if i = 3 then 1000 else if i = 2 then 100 else if i = 1 then 10 else if i = 0 then 1 else 0
theorem own_pow0 : own_pow 0 = 1 := by decide
theorem own_pow1 : own_pow 1 = 10 := by decide
theorem own_pow2 : own_pow 2 = 100 := by decide
theorem own_pow3 : own_pow 3 = 1000 := by decide
theorem own_pow4 : own_pow 4 = 10000 := by decide
theorem own_pow5 : own_pow 5 = 100000 := by decide
theorem own_pow6 : own_pow 6 = 1000000 := by decide
theorem own_pow7 : own_pow 7 = 10000000 := by decide
theorem own_pow8 : own_pow 8 = 100000000 := by decide
theorem own_pow9 : own_pow 9 = 1000000000 := by decide
theorem own_pow10 : own_pow 10 = 10000000000 := by decide
theorem own_pow11 : own_pow 11 = 100000000000 := by decide
theorem own_pow12 : own_pow 12 = 1000000000000 := by decide
theorem own_pow13 : own_pow 13 = 10000000000000 := by decide
theorem own_pow14 : own_pow 14 = 100000000000000 := by decide
theorem own_pow15 : own_pow 15 = 1000000000000000 := by decide
theorem own_pow16 : own_pow 16 = 10000000000000000 := by decide
theorem own_pow17 : own_pow 17 = 100000000000000000 := by decide
theorem own_pow18 : own_pow 18 = 1000000000000000000 := by decide
def own_len (q : Int64) : Int32 := if q < 10 then 1 else if q < 100 then 2 else if q < 1000 then 3 else if q < 10000 then 4 else if q < 100000 then 5 else if q < 1000000 then 6 else if q < 10000000 then 7 else if q < 100000000 then 8 else if q < 1000000000 then 9 else if q < 10000000000 then 10 else if q < 100000000000 then 11 else if q < 1000000000000 then 12 else if q < 10000000000000 then 13 else if q < 100000000000000 then 14 else if q < 1000000000000000 then 15 else if q < 10000000000000000 then 16 else if q < 100000000000000000 then 17 else if q < 1000000000000000000 then 18 else 19
theorem ef_rm1 (m : MethodId) (x0 : Int64) : entryFrame m #[(.long x0)] 3 = mkF m 0 #[.val (.long x0), .second, .unset] [] := by first | (simp [entryFrame, mkF, argsToLocals, Value.category]; done) | rfl
theorem pn_com_example_mirrorgauge_mirrorgauge_message_Decimal : plainName "com/example/mirrorgauge/mirrorgauge/message/Decimal" = true := by first | (simp [plainName, overriddenIn]; done) | decide +kernel
theorem d1_0 : decode prog_49_method_2_code 0 = .ok (.iconst 1, 1) := by decide +kernel
theorem d1_1 : decode prog_49_method_2_code 1 = .ok (.istore_n 2, 1) := by decide +kernel
theorem d1_2 : decode prog_49_method_2_code 2 = .ok (.iload_n 2, 1) := by decide +kernel
theorem d1_3 : decode prog_49_method_2_code 3 = .ok (.getstatic 9, 3) := by decide +kernel
theorem d1_6 : decode prog_49_method_2_code 6 = .ok (.arraylength, 1) := by decide +kernel
theorem d1_7 : decode prog_49_method_2_code 7 = .ok (.if_icmp .ge 19, 3) := by decide +kernel
theorem d1_10 : decode prog_49_method_2_code 10 = .ok (.lload_n 0, 1) := by decide +kernel
theorem d1_11 : decode prog_49_method_2_code 11 = .ok (.getstatic 9, 3) := by decide +kernel
theorem d1_14 : decode prog_49_method_2_code 14 = .ok (.iload_n 2, 1) := by decide +kernel
theorem d1_15 : decode prog_49_method_2_code 15 = .ok (.laload, 1) := by decide +kernel
theorem d1_16 : decode prog_49_method_2_code 16 = .ok (.lcmp, 1) := by decide +kernel
theorem d1_17 : decode prog_49_method_2_code 17 = .ok (.ifCond .lt 9, 3) := by decide +kernel
theorem d1_26 : decode prog_49_method_2_code 26 = .ok (.iload_n 2, 1) := by decide +kernel
theorem d1_27 : decode prog_49_method_2_code 27 = .ok (.ireturn, 1) := by decide +kernel
theorem d1_20 : decode prog_49_method_2_code 20 = .ok (.iinc 2 1, 3) := by decide +kernel
theorem d1_23 : decode prog_49_method_2_code 23 = .ok (.goto (-21), 3) := by decide +kernel
set_option maxRecDepth 65536 in
set_option maxHeartbeats 40000000 in
theorem rm1 (l : Launch) (Z : State) (a0 : Array Value) (hw : ∀ d ∈ tables_1, d.before a0 Z = true) (ws : List Jvm.Cond) (q0 : Int64) (h0 : Heap)  (w_P : Addr) (kk : ClassId) (S_P : Sta Z h0 "com/example/mirrorgauge/mirrorgauge/message/Decimal" "POWERS" "[J" (.ref w_P)) (A_P : Ary Z h0 w_P kk .long (19 : Int32) (fun j => .long (own_pow j))) :
    Pays l Z (⟨"com/example/mirrorgauge/mirrorgauge/message/Decimal", "length", "(J)I"⟩ : MethodName) prog_49_method_2_code 3 (some .int) ws ({ frames := 0, cells := 0, slots := 0, locals := 0 } : Room) #[(.long q0)] h0 (RetQ (some (.int (own_len q0))) h0) := by
  refine EKit.pays (plainFor_of_name pn_com_example_mirrorgauge_mirrorgauge_message_Decimal) (fun m => ef_rm1 m q0) ?_
  intro p e s m below meth c s₁ hx hby hml hZ hown hnm hret X0 e0 hs0
  refine EKit.iconst X0 hx (v := (1 : Int32)) rfl (hb hby d1_0) (q := 1) rfl ?_
  refine EKit.istoreN X0 hx (l' := #[.val (.long q0), .second, .val (.int (1 : Int32))]) rfl (hb hby d1_1) (q := 2) rfl ?_
  refine EKit.iloadN X0 hx rfl (hb hby d1_2) (q := 3) rfl ?_
  obtain ⟨T1, X1, e1, st1⟩ := getS X0 hx hZ (host := "") hown (hw _ (List.mem_of_getElem? (i := 24) rfl)) Via.refl e0 S_P (g := (mkF m 3 #[.val (.long q0), .second, .val (.int (1 : Int32))] [(.int (1 : Int32))])) rfl (hb hby d1_3)
  refine EKit.step st1 ?_
  show EKit.Ends p l e ({ frames := 0, cells := 0, slots := 0, locals := 0 } : Room) s m #[(.long q0)] below meth c ({ frames := 0, cells := 0, slots := 0, locals := 0 } : Room).cells ({ frames := 0, cells := 0, slots := 0, locals := 0 } : Room).slots (RetQ (some (.int (own_len q0))) h0) T1 (mkF m 6 #[.val (.long q0), .second, .val (.int (1 : Int32))] [(.ref w_P), (.int (1 : Int32))])
  refine EKit.alen X1 hx hZ e1 A_P (hb hby d1_6) (q := 7) rfl ?_
  have h7 : (1 : Int32) < (19 : Int32) := by decide
  refine EKit.icmpNo X1 hx ((tlt h7).2.1) (hb hby d1_7) (q := 10) rfl ?_
  refine EKit.lloadN X1 hx rfl (hb hby d1_10) (q := 11) rfl ?_
  obtain ⟨T2, X2, e2, st2⟩ := getS X1 hx hZ (host := "") hown (hw _ (List.mem_of_getElem? (i := 24) rfl)) Via.refl e1 S_P (g := (mkF m 11 #[.val (.long q0), .second, .val (.int (1 : Int32))] [(.long q0)])) rfl (hb hby d1_11)
  refine EKit.step st2 ?_
  show EKit.Ends p l e ({ frames := 0, cells := 0, slots := 0, locals := 0 } : Room) s m #[(.long q0)] below meth c ({ frames := 0, cells := 0, slots := 0, locals := 0 } : Room).cells ({ frames := 0, cells := 0, slots := 0, locals := 0 } : Room).slots (RetQ (some (.int (own_len q0))) h0) T2 (mkF m 14 #[.val (.long q0), .second, .val (.int (1 : Int32))] [(.ref w_P), (.long q0)])
  refine EKit.iloadN X2 hx rfl (hb hby d1_14) (q := 15) rfl ?_
  refine EKit.laload X2 hx hZ e2 A_P (by decide) (by decide) (v := (.long (10 : Int64))) (congrArg Value.long own_pow1) (hb hby d1_15) (q := 16) rfl ?_
  refine EKit.lcmp X2 hx  (hb hby d1_16) (q := 17) rfl ?_
  by_cases h17 : q0 < (10 : Int64)
  · skip
    refine EKit.ifYes X2 hx (EKit.c_t (tlt (EKit.l_t h17)).1) (hb hby d1_17) (by decide) (q := 26) (by decide) ?_
    refine EKit.iloadN X2 hx rfl (hb hby d1_26) (q := 27) rfl ?_
    exact EKit.retI X2 hx hret (hb hby d1_27) (⟨by simp [own_len, h17], e2, rfl⟩) (by decide) (by decide)
  · skip
    refine EKit.ifNo X2 hx (EKit.c_t (flt (EKit.l_f h17)).1) (hb hby d1_17) (q := 20) rfl ?_
    refine EKit.iinc X2 hx rfl (v := (2 : Int32)) rfl (l' := #[.val (.long q0), .second, .val (.int (2 : Int32))]) rfl (hb hby d1_20) (q := 23) rfl ?_
    refine EKit.goto X2 hx (hb hby d1_23) (by decide) (q := 2) (by decide) ?_
    refine EKit.iloadN X2 hx rfl (hb hby d1_2) (q := 3) rfl ?_
    obtain ⟨T3, X3, e3, st3⟩ := getS X2 hx hZ (host := "") hown (hw _ (List.mem_of_getElem? (i := 24) rfl)) Via.refl e2 S_P (g := (mkF m 3 #[.val (.long q0), .second, .val (.int (2 : Int32))] [(.int (2 : Int32))])) rfl (hb hby d1_3)
    refine EKit.step st3 ?_
    show EKit.Ends p l e ({ frames := 0, cells := 0, slots := 0, locals := 0 } : Room) s m #[(.long q0)] below meth c ({ frames := 0, cells := 0, slots := 0, locals := 0 } : Room).cells ({ frames := 0, cells := 0, slots := 0, locals := 0 } : Room).slots (RetQ (some (.int (own_len q0))) h0) T3 (mkF m 6 #[.val (.long q0), .second, .val (.int (2 : Int32))] [(.ref w_P), (.int (2 : Int32))])
    refine EKit.alen X3 hx hZ e3 A_P (hb hby d1_6) (q := 7) rfl ?_
    have h7_4 : (2 : Int32) < (19 : Int32) := by decide
    refine EKit.icmpNo X3 hx ((tlt h7_4).2.1) (hb hby d1_7) (q := 10) rfl ?_
    refine EKit.lloadN X3 hx rfl (hb hby d1_10) (q := 11) rfl ?_
    obtain ⟨T5, X5, e5, st5⟩ := getS X3 hx hZ (host := "") hown (hw _ (List.mem_of_getElem? (i := 24) rfl)) Via.refl e3 S_P (g := (mkF m 11 #[.val (.long q0), .second, .val (.int (2 : Int32))] [(.long q0)])) rfl (hb hby d1_11)
    refine EKit.step st5 ?_
    show EKit.Ends p l e ({ frames := 0, cells := 0, slots := 0, locals := 0 } : Room) s m #[(.long q0)] below meth c ({ frames := 0, cells := 0, slots := 0, locals := 0 } : Room).cells ({ frames := 0, cells := 0, slots := 0, locals := 0 } : Room).slots (RetQ (some (.int (own_len q0))) h0) T5 (mkF m 14 #[.val (.long q0), .second, .val (.int (2 : Int32))] [(.ref w_P), (.long q0)])
    refine EKit.iloadN X5 hx rfl (hb hby d1_14) (q := 15) rfl ?_
    refine EKit.laload X5 hx hZ e5 A_P (by decide) (by decide) (v := (.long (100 : Int64))) (congrArg Value.long own_pow2) (hb hby d1_15) (q := 16) rfl ?_
    refine EKit.lcmp X5 hx  (hb hby d1_16) (q := 17) rfl ?_
    by_cases h17_6 : q0 < (100 : Int64)
    · skip
      refine EKit.ifYes X5 hx (EKit.c_t (tlt (EKit.l_t h17_6)).1) (hb hby d1_17) (by decide) (q := 26) (by decide) ?_
      refine EKit.iloadN X5 hx rfl (hb hby d1_26) (q := 27) rfl ?_
      exact EKit.retI X5 hx hret (hb hby d1_27) (⟨by simp [own_len, h17, h17_6], e5, rfl⟩) (by decide) (by decide)
    · skip
      refine EKit.ifNo X5 hx (EKit.c_t (flt (EKit.l_f h17_6)).1) (hb hby d1_17) (q := 20) rfl ?_
      refine EKit.iinc X5 hx rfl (v := (3 : Int32)) rfl (l' := #[.val (.long q0), .second, .val (.int (3 : Int32))]) rfl (hb hby d1_20) (q := 23) rfl ?_
      refine EKit.goto X5 hx (hb hby d1_23) (by decide) (q := 2) (by decide) ?_
      refine EKit.iloadN X5 hx rfl (hb hby d1_2) (q := 3) rfl ?_
      obtain ⟨T7, X7, e7, st7⟩ := getS X5 hx hZ (host := "") hown (hw _ (List.mem_of_getElem? (i := 24) rfl)) Via.refl e5 S_P (g := (mkF m 3 #[.val (.long q0), .second, .val (.int (3 : Int32))] [(.int (3 : Int32))])) rfl (hb hby d1_3)
      refine EKit.step st7 ?_
      show EKit.Ends p l e ({ frames := 0, cells := 0, slots := 0, locals := 0 } : Room) s m #[(.long q0)] below meth c ({ frames := 0, cells := 0, slots := 0, locals := 0 } : Room).cells ({ frames := 0, cells := 0, slots := 0, locals := 0 } : Room).slots (RetQ (some (.int (own_len q0))) h0) T7 (mkF m 6 #[.val (.long q0), .second, .val (.int (3 : Int32))] [(.ref w_P), (.int (3 : Int32))])
      refine EKit.alen X7 hx hZ e7 A_P (hb hby d1_6) (q := 7) rfl ?_
      have h7_8 : (3 : Int32) < (19 : Int32) := by decide
      refine EKit.icmpNo X7 hx ((tlt h7_8).2.1) (hb hby d1_7) (q := 10) rfl ?_
      refine EKit.lloadN X7 hx rfl (hb hby d1_10) (q := 11) rfl ?_
      obtain ⟨T9, X9, e9, st9⟩ := getS X7 hx hZ (host := "") hown (hw _ (List.mem_of_getElem? (i := 24) rfl)) Via.refl e7 S_P (g := (mkF m 11 #[.val (.long q0), .second, .val (.int (3 : Int32))] [(.long q0)])) rfl (hb hby d1_11)
      refine EKit.step st9 ?_
      show EKit.Ends p l e ({ frames := 0, cells := 0, slots := 0, locals := 0 } : Room) s m #[(.long q0)] below meth c ({ frames := 0, cells := 0, slots := 0, locals := 0 } : Room).cells ({ frames := 0, cells := 0, slots := 0, locals := 0 } : Room).slots (RetQ (some (.int (own_len q0))) h0) T9 (mkF m 14 #[.val (.long q0), .second, .val (.int (3 : Int32))] [(.ref w_P), (.long q0)])
      refine EKit.iloadN X9 hx rfl (hb hby d1_14) (q := 15) rfl ?_
      refine EKit.laload X9 hx hZ e9 A_P (by decide) (by decide) (v := (.long (1000 : Int64))) (congrArg Value.long own_pow3) (hb hby d1_15) (q := 16) rfl ?_
      refine EKit.lcmp X9 hx  (hb hby d1_16) (q := 17) rfl ?_
      by_cases h17_10 : q0 < (1000 : Int64)
      · skip
        refine EKit.ifYes X9 hx (EKit.c_t (tlt (EKit.l_t h17_10)).1) (hb hby d1_17) (by decide) (q := 26) (by decide) ?_
        refine EKit.iloadN X9 hx rfl (hb hby d1_26) (q := 27) rfl ?_
        exact EKit.retI X9 hx hret (hb hby d1_27) (⟨by simp [own_len, h17, h17_6, h17_10], e9, rfl⟩) (by decide) (by decide)
      · skip
        refine EKit.ifNo X9 hx (EKit.c_t (flt (EKit.l_f h17_10)).1) (hb hby d1_17) (q := 20) rfl ?_
        refine EKit.iinc X9 hx rfl (v := (4 : Int32)) rfl (l' := #[.val (.long q0), .second, .val (.int (4 : Int32))]) rfl (hb hby d1_20) (q := 23) rfl ?_
        refine EKit.goto X9 hx (hb hby d1_23) (by decide) (q := 2) (by decide) ?_
        refine EKit.iloadN X9 hx rfl (hb hby d1_2) (q := 3) rfl ?_
        obtain ⟨T11, X11, e11, st11⟩ := getS X9 hx hZ (host := "") hown (hw _ (List.mem_of_getElem? (i := 24) rfl)) Via.refl e9 S_P (g := (mkF m 3 #[.val (.long q0), .second, .val (.int (4 : Int32))] [(.int (4 : Int32))])) rfl (hb hby d1_3)
        refine EKit.step st11 ?_
        show EKit.Ends p l e ({ frames := 0, cells := 0, slots := 0, locals := 0 } : Room) s m #[(.long q0)] below meth c ({ frames := 0, cells := 0, slots := 0, locals := 0 } : Room).cells ({ frames := 0, cells := 0, slots := 0, locals := 0 } : Room).slots (RetQ (some (.int (own_len q0))) h0) T11 (mkF m 6 #[.val (.long q0), .second, .val (.int (4 : Int32))] [(.ref w_P), (.int (4 : Int32))])
        refine EKit.alen X11 hx hZ e11 A_P (hb hby d1_6) (q := 7) rfl ?_
        have h7_12 : (4 : Int32) < (19 : Int32) := by decide
        refine EKit.icmpNo X11 hx ((tlt h7_12).2.1) (hb hby d1_7) (q := 10) rfl ?_
        refine EKit.lloadN X11 hx rfl (hb hby d1_10) (q := 11) rfl ?_
        obtain ⟨T13, X13, e13, st13⟩ := getS X11 hx hZ (host := "") hown (hw _ (List.mem_of_getElem? (i := 24) rfl)) Via.refl e11 S_P (g := (mkF m 11 #[.val (.long q0), .second, .val (.int (4 : Int32))] [(.long q0)])) rfl (hb hby d1_11)
        refine EKit.step st13 ?_
        show EKit.Ends p l e ({ frames := 0, cells := 0, slots := 0, locals := 0 } : Room) s m #[(.long q0)] below meth c ({ frames := 0, cells := 0, slots := 0, locals := 0 } : Room).cells ({ frames := 0, cells := 0, slots := 0, locals := 0 } : Room).slots (RetQ (some (.int (own_len q0))) h0) T13 (mkF m 14 #[.val (.long q0), .second, .val (.int (4 : Int32))] [(.ref w_P), (.long q0)])
        refine EKit.iloadN X13 hx rfl (hb hby d1_14) (q := 15) rfl ?_
        refine EKit.laload X13 hx hZ e13 A_P (by decide) (by decide) (v := (.long (10000 : Int64))) (congrArg Value.long own_pow4) (hb hby d1_15) (q := 16) rfl ?_
        refine EKit.lcmp X13 hx  (hb hby d1_16) (q := 17) rfl ?_
        by_cases h17_14 : q0 < (10000 : Int64)
        · skip
          refine EKit.ifYes X13 hx (EKit.c_t (tlt (EKit.l_t h17_14)).1) (hb hby d1_17) (by decide) (q := 26) (by decide) ?_
          refine EKit.iloadN X13 hx rfl (hb hby d1_26) (q := 27) rfl ?_
          exact EKit.retI X13 hx hret (hb hby d1_27) (⟨by simp [own_len, h17, h17_6, h17_10, h17_14], e13, rfl⟩) (by decide) (by decide)
        · skip
          refine EKit.ifNo X13 hx (EKit.c_t (flt (EKit.l_f h17_14)).1) (hb hby d1_17) (q := 20) rfl ?_
          refine EKit.iinc X13 hx rfl (v := (5 : Int32)) rfl (l' := #[.val (.long q0), .second, .val (.int (5 : Int32))]) rfl (hb hby d1_20) (q := 23) rfl ?_
          refine EKit.goto X13 hx (hb hby d1_23) (by decide) (q := 2) (by decide) ?_
          refine EKit.iloadN X13 hx rfl (hb hby d1_2) (q := 3) rfl ?_
          obtain ⟨T15, X15, e15, st15⟩ := getS X13 hx hZ (host := "") hown (hw _ (List.mem_of_getElem? (i := 24) rfl)) Via.refl e13 S_P (g := (mkF m 3 #[.val (.long q0), .second, .val (.int (5 : Int32))] [(.int (5 : Int32))])) rfl (hb hby d1_3)
          refine EKit.step st15 ?_
          show EKit.Ends p l e ({ frames := 0, cells := 0, slots := 0, locals := 0 } : Room) s m #[(.long q0)] below meth c ({ frames := 0, cells := 0, slots := 0, locals := 0 } : Room).cells ({ frames := 0, cells := 0, slots := 0, locals := 0 } : Room).slots (RetQ (some (.int (own_len q0))) h0) T15 (mkF m 6 #[.val (.long q0), .second, .val (.int (5 : Int32))] [(.ref w_P), (.int (5 : Int32))])
          refine EKit.alen X15 hx hZ e15 A_P (hb hby d1_6) (q := 7) rfl ?_
          have h7_16 : (5 : Int32) < (19 : Int32) := by decide
          refine EKit.icmpNo X15 hx ((tlt h7_16).2.1) (hb hby d1_7) (q := 10) rfl ?_
          refine EKit.lloadN X15 hx rfl (hb hby d1_10) (q := 11) rfl ?_
          obtain ⟨T17, X17, e17, st17⟩ := getS X15 hx hZ (host := "") hown (hw _ (List.mem_of_getElem? (i := 24) rfl)) Via.refl e15 S_P (g := (mkF m 11 #[.val (.long q0), .second, .val (.int (5 : Int32))] [(.long q0)])) rfl (hb hby d1_11)
          refine EKit.step st17 ?_
          show EKit.Ends p l e ({ frames := 0, cells := 0, slots := 0, locals := 0 } : Room) s m #[(.long q0)] below meth c ({ frames := 0, cells := 0, slots := 0, locals := 0 } : Room).cells ({ frames := 0, cells := 0, slots := 0, locals := 0 } : Room).slots (RetQ (some (.int (own_len q0))) h0) T17 (mkF m 14 #[.val (.long q0), .second, .val (.int (5 : Int32))] [(.ref w_P), (.long q0)])
          refine EKit.iloadN X17 hx rfl (hb hby d1_14) (q := 15) rfl ?_
          refine EKit.laload X17 hx hZ e17 A_P (by decide) (by decide) (v := (.long (100000 : Int64))) (congrArg Value.long own_pow5) (hb hby d1_15) (q := 16) rfl ?_
          refine EKit.lcmp X17 hx  (hb hby d1_16) (q := 17) rfl ?_
          by_cases h17_18 : q0 < (100000 : Int64)
          · skip
            refine EKit.ifYes X17 hx (EKit.c_t (tlt (EKit.l_t h17_18)).1) (hb hby d1_17) (by decide) (q := 26) (by decide) ?_
            refine EKit.iloadN X17 hx rfl (hb hby d1_26) (q := 27) rfl ?_
            exact EKit.retI X17 hx hret (hb hby d1_27) (⟨by simp [own_len, h17, h17_6, h17_10, h17_14, h17_18], e17, rfl⟩) (by decide) (by decide)
          · skip
            refine EKit.ifNo X17 hx (EKit.c_t (flt (EKit.l_f h17_18)).1) (hb hby d1_17) (q := 20) rfl ?_
            refine EKit.iinc X17 hx rfl (v := (6 : Int32)) rfl (l' := #[.val (.long q0), .second, .val (.int (6 : Int32))]) rfl (hb hby d1_20) (q := 23) rfl ?_
            refine EKit.goto X17 hx (hb hby d1_23) (by decide) (q := 2) (by decide) ?_
            refine EKit.iloadN X17 hx rfl (hb hby d1_2) (q := 3) rfl ?_
            obtain ⟨T19, X19, e19, st19⟩ := getS X17 hx hZ (host := "") hown (hw _ (List.mem_of_getElem? (i := 24) rfl)) Via.refl e17 S_P (g := (mkF m 3 #[.val (.long q0), .second, .val (.int (6 : Int32))] [(.int (6 : Int32))])) rfl (hb hby d1_3)
            refine EKit.step st19 ?_
            show EKit.Ends p l e ({ frames := 0, cells := 0, slots := 0, locals := 0 } : Room) s m #[(.long q0)] below meth c ({ frames := 0, cells := 0, slots := 0, locals := 0 } : Room).cells ({ frames := 0, cells := 0, slots := 0, locals := 0 } : Room).slots (RetQ (some (.int (own_len q0))) h0) T19 (mkF m 6 #[.val (.long q0), .second, .val (.int (6 : Int32))] [(.ref w_P), (.int (6 : Int32))])
            refine EKit.alen X19 hx hZ e19 A_P (hb hby d1_6) (q := 7) rfl ?_
            have h7_20 : (6 : Int32) < (19 : Int32) := by decide
            refine EKit.icmpNo X19 hx ((tlt h7_20).2.1) (hb hby d1_7) (q := 10) rfl ?_
            refine EKit.lloadN X19 hx rfl (hb hby d1_10) (q := 11) rfl ?_
            obtain ⟨T21, X21, e21, st21⟩ := getS X19 hx hZ (host := "") hown (hw _ (List.mem_of_getElem? (i := 24) rfl)) Via.refl e19 S_P (g := (mkF m 11 #[.val (.long q0), .second, .val (.int (6 : Int32))] [(.long q0)])) rfl (hb hby d1_11)
            refine EKit.step st21 ?_
            show EKit.Ends p l e ({ frames := 0, cells := 0, slots := 0, locals := 0 } : Room) s m #[(.long q0)] below meth c ({ frames := 0, cells := 0, slots := 0, locals := 0 } : Room).cells ({ frames := 0, cells := 0, slots := 0, locals := 0 } : Room).slots (RetQ (some (.int (own_len q0))) h0) T21 (mkF m 14 #[.val (.long q0), .second, .val (.int (6 : Int32))] [(.ref w_P), (.long q0)])
            refine EKit.iloadN X21 hx rfl (hb hby d1_14) (q := 15) rfl ?_
            refine EKit.laload X21 hx hZ e21 A_P (by decide) (by decide) (v := (.long (1000000 : Int64))) (congrArg Value.long own_pow6) (hb hby d1_15) (q := 16) rfl ?_
            refine EKit.lcmp X21 hx  (hb hby d1_16) (q := 17) rfl ?_
            by_cases h17_22 : q0 < (1000000 : Int64)
            · skip
              refine EKit.ifYes X21 hx (EKit.c_t (tlt (EKit.l_t h17_22)).1) (hb hby d1_17) (by decide) (q := 26) (by decide) ?_
              refine EKit.iloadN X21 hx rfl (hb hby d1_26) (q := 27) rfl ?_
              exact EKit.retI X21 hx hret (hb hby d1_27) (⟨by simp [own_len, h17, h17_6, h17_10, h17_14, h17_18, h17_22], e21, rfl⟩) (by decide) (by decide)
            · skip
              refine EKit.ifNo X21 hx (EKit.c_t (flt (EKit.l_f h17_22)).1) (hb hby d1_17) (q := 20) rfl ?_
              refine EKit.iinc X21 hx rfl (v := (7 : Int32)) rfl (l' := #[.val (.long q0), .second, .val (.int (7 : Int32))]) rfl (hb hby d1_20) (q := 23) rfl ?_
              refine EKit.goto X21 hx (hb hby d1_23) (by decide) (q := 2) (by decide) ?_
              refine EKit.iloadN X21 hx rfl (hb hby d1_2) (q := 3) rfl ?_
              obtain ⟨T23, X23, e23, st23⟩ := getS X21 hx hZ (host := "") hown (hw _ (List.mem_of_getElem? (i := 24) rfl)) Via.refl e21 S_P (g := (mkF m 3 #[.val (.long q0), .second, .val (.int (7 : Int32))] [(.int (7 : Int32))])) rfl (hb hby d1_3)
              refine EKit.step st23 ?_
              show EKit.Ends p l e ({ frames := 0, cells := 0, slots := 0, locals := 0 } : Room) s m #[(.long q0)] below meth c ({ frames := 0, cells := 0, slots := 0, locals := 0 } : Room).cells ({ frames := 0, cells := 0, slots := 0, locals := 0 } : Room).slots (RetQ (some (.int (own_len q0))) h0) T23 (mkF m 6 #[.val (.long q0), .second, .val (.int (7 : Int32))] [(.ref w_P), (.int (7 : Int32))])
              refine EKit.alen X23 hx hZ e23 A_P (hb hby d1_6) (q := 7) rfl ?_
              have h7_24 : (7 : Int32) < (19 : Int32) := by decide
              refine EKit.icmpNo X23 hx ((tlt h7_24).2.1) (hb hby d1_7) (q := 10) rfl ?_
              refine EKit.lloadN X23 hx rfl (hb hby d1_10) (q := 11) rfl ?_
              obtain ⟨T25, X25, e25, st25⟩ := getS X23 hx hZ (host := "") hown (hw _ (List.mem_of_getElem? (i := 24) rfl)) Via.refl e23 S_P (g := (mkF m 11 #[.val (.long q0), .second, .val (.int (7 : Int32))] [(.long q0)])) rfl (hb hby d1_11)
              refine EKit.step st25 ?_
              show EKit.Ends p l e ({ frames := 0, cells := 0, slots := 0, locals := 0 } : Room) s m #[(.long q0)] below meth c ({ frames := 0, cells := 0, slots := 0, locals := 0 } : Room).cells ({ frames := 0, cells := 0, slots := 0, locals := 0 } : Room).slots (RetQ (some (.int (own_len q0))) h0) T25 (mkF m 14 #[.val (.long q0), .second, .val (.int (7 : Int32))] [(.ref w_P), (.long q0)])
              refine EKit.iloadN X25 hx rfl (hb hby d1_14) (q := 15) rfl ?_
              refine EKit.laload X25 hx hZ e25 A_P (by decide) (by decide) (v := (.long (10000000 : Int64))) (congrArg Value.long own_pow7) (hb hby d1_15) (q := 16) rfl ?_
              refine EKit.lcmp X25 hx  (hb hby d1_16) (q := 17) rfl ?_
              by_cases h17_26 : q0 < (10000000 : Int64)
              · skip
                refine EKit.ifYes X25 hx (EKit.c_t (tlt (EKit.l_t h17_26)).1) (hb hby d1_17) (by decide) (q := 26) (by decide) ?_
                refine EKit.iloadN X25 hx rfl (hb hby d1_26) (q := 27) rfl ?_
                exact EKit.retI X25 hx hret (hb hby d1_27) (⟨by simp [own_len, h17, h17_6, h17_10, h17_14, h17_18, h17_22, h17_26], e25, rfl⟩) (by decide) (by decide)
              · skip
                refine EKit.ifNo X25 hx (EKit.c_t (flt (EKit.l_f h17_26)).1) (hb hby d1_17) (q := 20) rfl ?_
                refine EKit.iinc X25 hx rfl (v := (8 : Int32)) rfl (l' := #[.val (.long q0), .second, .val (.int (8 : Int32))]) rfl (hb hby d1_20) (q := 23) rfl ?_
                refine EKit.goto X25 hx (hb hby d1_23) (by decide) (q := 2) (by decide) ?_
                refine EKit.iloadN X25 hx rfl (hb hby d1_2) (q := 3) rfl ?_
                obtain ⟨T27, X27, e27, st27⟩ := getS X25 hx hZ (host := "") hown (hw _ (List.mem_of_getElem? (i := 24) rfl)) Via.refl e25 S_P (g := (mkF m 3 #[.val (.long q0), .second, .val (.int (8 : Int32))] [(.int (8 : Int32))])) rfl (hb hby d1_3)
                refine EKit.step st27 ?_
                show EKit.Ends p l e ({ frames := 0, cells := 0, slots := 0, locals := 0 } : Room) s m #[(.long q0)] below meth c ({ frames := 0, cells := 0, slots := 0, locals := 0 } : Room).cells ({ frames := 0, cells := 0, slots := 0, locals := 0 } : Room).slots (RetQ (some (.int (own_len q0))) h0) T27 (mkF m 6 #[.val (.long q0), .second, .val (.int (8 : Int32))] [(.ref w_P), (.int (8 : Int32))])
                refine EKit.alen X27 hx hZ e27 A_P (hb hby d1_6) (q := 7) rfl ?_
                have h7_28 : (8 : Int32) < (19 : Int32) := by decide
                refine EKit.icmpNo X27 hx ((tlt h7_28).2.1) (hb hby d1_7) (q := 10) rfl ?_
                refine EKit.lloadN X27 hx rfl (hb hby d1_10) (q := 11) rfl ?_
                obtain ⟨T29, X29, e29, st29⟩ := getS X27 hx hZ (host := "") hown (hw _ (List.mem_of_getElem? (i := 24) rfl)) Via.refl e27 S_P (g := (mkF m 11 #[.val (.long q0), .second, .val (.int (8 : Int32))] [(.long q0)])) rfl (hb hby d1_11)
                refine EKit.step st29 ?_
                show EKit.Ends p l e ({ frames := 0, cells := 0, slots := 0, locals := 0 } : Room) s m #[(.long q0)] below meth c ({ frames := 0, cells := 0, slots := 0, locals := 0 } : Room).cells ({ frames := 0, cells := 0, slots := 0, locals := 0 } : Room).slots (RetQ (some (.int (own_len q0))) h0) T29 (mkF m 14 #[.val (.long q0), .second, .val (.int (8 : Int32))] [(.ref w_P), (.long q0)])
                refine EKit.iloadN X29 hx rfl (hb hby d1_14) (q := 15) rfl ?_
                refine EKit.laload X29 hx hZ e29 A_P (by decide) (by decide) (v := (.long (100000000 : Int64))) (congrArg Value.long own_pow8) (hb hby d1_15) (q := 16) rfl ?_
                refine EKit.lcmp X29 hx  (hb hby d1_16) (q := 17) rfl ?_
                by_cases h17_30 : q0 < (100000000 : Int64)
                · skip
                  refine EKit.ifYes X29 hx (EKit.c_t (tlt (EKit.l_t h17_30)).1) (hb hby d1_17) (by decide) (q := 26) (by decide) ?_
                  refine EKit.iloadN X29 hx rfl (hb hby d1_26) (q := 27) rfl ?_
                  exact EKit.retI X29 hx hret (hb hby d1_27) (⟨by simp [own_len, h17, h17_6, h17_10, h17_14, h17_18, h17_22, h17_26, h17_30], e29, rfl⟩) (by decide) (by decide)
                · skip
                  refine EKit.ifNo X29 hx (EKit.c_t (flt (EKit.l_f h17_30)).1) (hb hby d1_17) (q := 20) rfl ?_
                  refine EKit.iinc X29 hx rfl (v := (9 : Int32)) rfl (l' := #[.val (.long q0), .second, .val (.int (9 : Int32))]) rfl (hb hby d1_20) (q := 23) rfl ?_
                  refine EKit.goto X29 hx (hb hby d1_23) (by decide) (q := 2) (by decide) ?_
                  refine EKit.iloadN X29 hx rfl (hb hby d1_2) (q := 3) rfl ?_
                  obtain ⟨T31, X31, e31, st31⟩ := getS X29 hx hZ (host := "") hown (hw _ (List.mem_of_getElem? (i := 24) rfl)) Via.refl e29 S_P (g := (mkF m 3 #[.val (.long q0), .second, .val (.int (9 : Int32))] [(.int (9 : Int32))])) rfl (hb hby d1_3)
                  refine EKit.step st31 ?_
                  show EKit.Ends p l e ({ frames := 0, cells := 0, slots := 0, locals := 0 } : Room) s m #[(.long q0)] below meth c ({ frames := 0, cells := 0, slots := 0, locals := 0 } : Room).cells ({ frames := 0, cells := 0, slots := 0, locals := 0 } : Room).slots (RetQ (some (.int (own_len q0))) h0) T31 (mkF m 6 #[.val (.long q0), .second, .val (.int (9 : Int32))] [(.ref w_P), (.int (9 : Int32))])
                  refine EKit.alen X31 hx hZ e31 A_P (hb hby d1_6) (q := 7) rfl ?_
                  have h7_32 : (9 : Int32) < (19 : Int32) := by decide
                  refine EKit.icmpNo X31 hx ((tlt h7_32).2.1) (hb hby d1_7) (q := 10) rfl ?_
                  refine EKit.lloadN X31 hx rfl (hb hby d1_10) (q := 11) rfl ?_
                  obtain ⟨T33, X33, e33, st33⟩ := getS X31 hx hZ (host := "") hown (hw _ (List.mem_of_getElem? (i := 24) rfl)) Via.refl e31 S_P (g := (mkF m 11 #[.val (.long q0), .second, .val (.int (9 : Int32))] [(.long q0)])) rfl (hb hby d1_11)
                  refine EKit.step st33 ?_
                  show EKit.Ends p l e ({ frames := 0, cells := 0, slots := 0, locals := 0 } : Room) s m #[(.long q0)] below meth c ({ frames := 0, cells := 0, slots := 0, locals := 0 } : Room).cells ({ frames := 0, cells := 0, slots := 0, locals := 0 } : Room).slots (RetQ (some (.int (own_len q0))) h0) T33 (mkF m 14 #[.val (.long q0), .second, .val (.int (9 : Int32))] [(.ref w_P), (.long q0)])
                  refine EKit.iloadN X33 hx rfl (hb hby d1_14) (q := 15) rfl ?_
                  refine EKit.laload X33 hx hZ e33 A_P (by decide) (by decide) (v := (.long (1000000000 : Int64))) (congrArg Value.long own_pow9) (hb hby d1_15) (q := 16) rfl ?_
                  refine EKit.lcmp X33 hx  (hb hby d1_16) (q := 17) rfl ?_
                  by_cases h17_34 : q0 < (1000000000 : Int64)
                  · skip
                    refine EKit.ifYes X33 hx (EKit.c_t (tlt (EKit.l_t h17_34)).1) (hb hby d1_17) (by decide) (q := 26) (by decide) ?_
                    refine EKit.iloadN X33 hx rfl (hb hby d1_26) (q := 27) rfl ?_
                    exact EKit.retI X33 hx hret (hb hby d1_27) (⟨by simp [own_len, h17, h17_6, h17_10, h17_14, h17_18, h17_22, h17_26, h17_30, h17_34], e33, rfl⟩) (by decide) (by decide)
                  · skip
                    refine EKit.ifNo X33 hx (EKit.c_t (flt (EKit.l_f h17_34)).1) (hb hby d1_17) (q := 20) rfl ?_
                    refine EKit.iinc X33 hx rfl (v := (10 : Int32)) rfl (l' := #[.val (.long q0), .second, .val (.int (10 : Int32))]) rfl (hb hby d1_20) (q := 23) rfl ?_
                    refine EKit.goto X33 hx (hb hby d1_23) (by decide) (q := 2) (by decide) ?_
                    refine EKit.iloadN X33 hx rfl (hb hby d1_2) (q := 3) rfl ?_
                    obtain ⟨T35, X35, e35, st35⟩ := getS X33 hx hZ (host := "") hown (hw _ (List.mem_of_getElem? (i := 24) rfl)) Via.refl e33 S_P (g := (mkF m 3 #[.val (.long q0), .second, .val (.int (10 : Int32))] [(.int (10 : Int32))])) rfl (hb hby d1_3)
                    refine EKit.step st35 ?_
                    show EKit.Ends p l e ({ frames := 0, cells := 0, slots := 0, locals := 0 } : Room) s m #[(.long q0)] below meth c ({ frames := 0, cells := 0, slots := 0, locals := 0 } : Room).cells ({ frames := 0, cells := 0, slots := 0, locals := 0 } : Room).slots (RetQ (some (.int (own_len q0))) h0) T35 (mkF m 6 #[.val (.long q0), .second, .val (.int (10 : Int32))] [(.ref w_P), (.int (10 : Int32))])
                    refine EKit.alen X35 hx hZ e35 A_P (hb hby d1_6) (q := 7) rfl ?_
                    have h7_36 : (10 : Int32) < (19 : Int32) := by decide
                    refine EKit.icmpNo X35 hx ((tlt h7_36).2.1) (hb hby d1_7) (q := 10) rfl ?_
                    refine EKit.lloadN X35 hx rfl (hb hby d1_10) (q := 11) rfl ?_
                    obtain ⟨T37, X37, e37, st37⟩ := getS X35 hx hZ (host := "") hown (hw _ (List.mem_of_getElem? (i := 24) rfl)) Via.refl e35 S_P (g := (mkF m 11 #[.val (.long q0), .second, .val (.int (10 : Int32))] [(.long q0)])) rfl (hb hby d1_11)
                    refine EKit.step st37 ?_
                    show EKit.Ends p l e ({ frames := 0, cells := 0, slots := 0, locals := 0 } : Room) s m #[(.long q0)] below meth c ({ frames := 0, cells := 0, slots := 0, locals := 0 } : Room).cells ({ frames := 0, cells := 0, slots := 0, locals := 0 } : Room).slots (RetQ (some (.int (own_len q0))) h0) T37 (mkF m 14 #[.val (.long q0), .second, .val (.int (10 : Int32))] [(.ref w_P), (.long q0)])
                    refine EKit.iloadN X37 hx rfl (hb hby d1_14) (q := 15) rfl ?_
                    refine EKit.laload X37 hx hZ e37 A_P (by decide) (by decide) (v := (.long (10000000000 : Int64))) (congrArg Value.long own_pow10) (hb hby d1_15) (q := 16) rfl ?_
                    refine EKit.lcmp X37 hx  (hb hby d1_16) (q := 17) rfl ?_
                    by_cases h17_38 : q0 < (10000000000 : Int64)
                    · skip
                      refine EKit.ifYes X37 hx (EKit.c_t (tlt (EKit.l_t h17_38)).1) (hb hby d1_17) (by decide) (q := 26) (by decide) ?_
                      refine EKit.iloadN X37 hx rfl (hb hby d1_26) (q := 27) rfl ?_
                      exact EKit.retI X37 hx hret (hb hby d1_27) (⟨by simp [own_len, h17, h17_6, h17_10, h17_14, h17_18, h17_22, h17_26, h17_30, h17_34, h17_38], e37, rfl⟩) (by decide) (by decide)
                    · skip
                      refine EKit.ifNo X37 hx (EKit.c_t (flt (EKit.l_f h17_38)).1) (hb hby d1_17) (q := 20) rfl ?_
                      refine EKit.iinc X37 hx rfl (v := (11 : Int32)) rfl (l' := #[.val (.long q0), .second, .val (.int (11 : Int32))]) rfl (hb hby d1_20) (q := 23) rfl ?_
                      refine EKit.goto X37 hx (hb hby d1_23) (by decide) (q := 2) (by decide) ?_
                      refine EKit.iloadN X37 hx rfl (hb hby d1_2) (q := 3) rfl ?_
                      obtain ⟨T39, X39, e39, st39⟩ := getS X37 hx hZ (host := "") hown (hw _ (List.mem_of_getElem? (i := 24) rfl)) Via.refl e37 S_P (g := (mkF m 3 #[.val (.long q0), .second, .val (.int (11 : Int32))] [(.int (11 : Int32))])) rfl (hb hby d1_3)
                      refine EKit.step st39 ?_
                      show EKit.Ends p l e ({ frames := 0, cells := 0, slots := 0, locals := 0 } : Room) s m #[(.long q0)] below meth c ({ frames := 0, cells := 0, slots := 0, locals := 0 } : Room).cells ({ frames := 0, cells := 0, slots := 0, locals := 0 } : Room).slots (RetQ (some (.int (own_len q0))) h0) T39 (mkF m 6 #[.val (.long q0), .second, .val (.int (11 : Int32))] [(.ref w_P), (.int (11 : Int32))])
                      refine EKit.alen X39 hx hZ e39 A_P (hb hby d1_6) (q := 7) rfl ?_
                      have h7_40 : (11 : Int32) < (19 : Int32) := by decide
                      refine EKit.icmpNo X39 hx ((tlt h7_40).2.1) (hb hby d1_7) (q := 10) rfl ?_
                      refine EKit.lloadN X39 hx rfl (hb hby d1_10) (q := 11) rfl ?_
                      obtain ⟨T41, X41, e41, st41⟩ := getS X39 hx hZ (host := "") hown (hw _ (List.mem_of_getElem? (i := 24) rfl)) Via.refl e39 S_P (g := (mkF m 11 #[.val (.long q0), .second, .val (.int (11 : Int32))] [(.long q0)])) rfl (hb hby d1_11)
                      refine EKit.step st41 ?_
                      show EKit.Ends p l e ({ frames := 0, cells := 0, slots := 0, locals := 0 } : Room) s m #[(.long q0)] below meth c ({ frames := 0, cells := 0, slots := 0, locals := 0 } : Room).cells ({ frames := 0, cells := 0, slots := 0, locals := 0 } : Room).slots (RetQ (some (.int (own_len q0))) h0) T41 (mkF m 14 #[.val (.long q0), .second, .val (.int (11 : Int32))] [(.ref w_P), (.long q0)])
                      refine EKit.iloadN X41 hx rfl (hb hby d1_14) (q := 15) rfl ?_
                      refine EKit.laload X41 hx hZ e41 A_P (by decide) (by decide) (v := (.long (100000000000 : Int64))) (congrArg Value.long own_pow11) (hb hby d1_15) (q := 16) rfl ?_
                      refine EKit.lcmp X41 hx  (hb hby d1_16) (q := 17) rfl ?_
                      by_cases h17_42 : q0 < (100000000000 : Int64)
                      · skip
                        refine EKit.ifYes X41 hx (EKit.c_t (tlt (EKit.l_t h17_42)).1) (hb hby d1_17) (by decide) (q := 26) (by decide) ?_
                        refine EKit.iloadN X41 hx rfl (hb hby d1_26) (q := 27) rfl ?_
                        exact EKit.retI X41 hx hret (hb hby d1_27) (⟨by simp [own_len, h17, h17_6, h17_10, h17_14, h17_18, h17_22, h17_26, h17_30, h17_34, h17_38, h17_42], e41, rfl⟩) (by decide) (by decide)
                      · skip
                        refine EKit.ifNo X41 hx (EKit.c_t (flt (EKit.l_f h17_42)).1) (hb hby d1_17) (q := 20) rfl ?_
                        refine EKit.iinc X41 hx rfl (v := (12 : Int32)) rfl (l' := #[.val (.long q0), .second, .val (.int (12 : Int32))]) rfl (hb hby d1_20) (q := 23) rfl ?_
                        refine EKit.goto X41 hx (hb hby d1_23) (by decide) (q := 2) (by decide) ?_
                        refine EKit.iloadN X41 hx rfl (hb hby d1_2) (q := 3) rfl ?_
                        obtain ⟨T43, X43, e43, st43⟩ := getS X41 hx hZ (host := "") hown (hw _ (List.mem_of_getElem? (i := 24) rfl)) Via.refl e41 S_P (g := (mkF m 3 #[.val (.long q0), .second, .val (.int (12 : Int32))] [(.int (12 : Int32))])) rfl (hb hby d1_3)
                        refine EKit.step st43 ?_
                        show EKit.Ends p l e ({ frames := 0, cells := 0, slots := 0, locals := 0 } : Room) s m #[(.long q0)] below meth c ({ frames := 0, cells := 0, slots := 0, locals := 0 } : Room).cells ({ frames := 0, cells := 0, slots := 0, locals := 0 } : Room).slots (RetQ (some (.int (own_len q0))) h0) T43 (mkF m 6 #[.val (.long q0), .second, .val (.int (12 : Int32))] [(.ref w_P), (.int (12 : Int32))])
                        refine EKit.alen X43 hx hZ e43 A_P (hb hby d1_6) (q := 7) rfl ?_
                        have h7_44 : (12 : Int32) < (19 : Int32) := by decide
                        refine EKit.icmpNo X43 hx ((tlt h7_44).2.1) (hb hby d1_7) (q := 10) rfl ?_
                        refine EKit.lloadN X43 hx rfl (hb hby d1_10) (q := 11) rfl ?_
                        obtain ⟨T45, X45, e45, st45⟩ := getS X43 hx hZ (host := "") hown (hw _ (List.mem_of_getElem? (i := 24) rfl)) Via.refl e43 S_P (g := (mkF m 11 #[.val (.long q0), .second, .val (.int (12 : Int32))] [(.long q0)])) rfl (hb hby d1_11)
                        refine EKit.step st45 ?_
                        show EKit.Ends p l e ({ frames := 0, cells := 0, slots := 0, locals := 0 } : Room) s m #[(.long q0)] below meth c ({ frames := 0, cells := 0, slots := 0, locals := 0 } : Room).cells ({ frames := 0, cells := 0, slots := 0, locals := 0 } : Room).slots (RetQ (some (.int (own_len q0))) h0) T45 (mkF m 14 #[.val (.long q0), .second, .val (.int (12 : Int32))] [(.ref w_P), (.long q0)])
                        refine EKit.iloadN X45 hx rfl (hb hby d1_14) (q := 15) rfl ?_
                        refine EKit.laload X45 hx hZ e45 A_P (by decide) (by decide) (v := (.long (1000000000000 : Int64))) (congrArg Value.long own_pow12) (hb hby d1_15) (q := 16) rfl ?_
                        refine EKit.lcmp X45 hx  (hb hby d1_16) (q := 17) rfl ?_
                        by_cases h17_46 : q0 < (1000000000000 : Int64)
                        · skip
                          refine EKit.ifYes X45 hx (EKit.c_t (tlt (EKit.l_t h17_46)).1) (hb hby d1_17) (by decide) (q := 26) (by decide) ?_
                          refine EKit.iloadN X45 hx rfl (hb hby d1_26) (q := 27) rfl ?_
                          exact EKit.retI X45 hx hret (hb hby d1_27) (⟨by simp [own_len, h17, h17_6, h17_10, h17_14, h17_18, h17_22, h17_26, h17_30, h17_34, h17_38, h17_42, h17_46], e45, rfl⟩) (by decide) (by decide)
                        · skip
                          refine EKit.ifNo X45 hx (EKit.c_t (flt (EKit.l_f h17_46)).1) (hb hby d1_17) (q := 20) rfl ?_
                          refine EKit.iinc X45 hx rfl (v := (13 : Int32)) rfl (l' := #[.val (.long q0), .second, .val (.int (13 : Int32))]) rfl (hb hby d1_20) (q := 23) rfl ?_
                          refine EKit.goto X45 hx (hb hby d1_23) (by decide) (q := 2) (by decide) ?_
                          refine EKit.iloadN X45 hx rfl (hb hby d1_2) (q := 3) rfl ?_
                          obtain ⟨T47, X47, e47, st47⟩ := getS X45 hx hZ (host := "") hown (hw _ (List.mem_of_getElem? (i := 24) rfl)) Via.refl e45 S_P (g := (mkF m 3 #[.val (.long q0), .second, .val (.int (13 : Int32))] [(.int (13 : Int32))])) rfl (hb hby d1_3)
                          refine EKit.step st47 ?_
                          show EKit.Ends p l e ({ frames := 0, cells := 0, slots := 0, locals := 0 } : Room) s m #[(.long q0)] below meth c ({ frames := 0, cells := 0, slots := 0, locals := 0 } : Room).cells ({ frames := 0, cells := 0, slots := 0, locals := 0 } : Room).slots (RetQ (some (.int (own_len q0))) h0) T47 (mkF m 6 #[.val (.long q0), .second, .val (.int (13 : Int32))] [(.ref w_P), (.int (13 : Int32))])
                          refine EKit.alen X47 hx hZ e47 A_P (hb hby d1_6) (q := 7) rfl ?_
                          have h7_48 : (13 : Int32) < (19 : Int32) := by decide
                          refine EKit.icmpNo X47 hx ((tlt h7_48).2.1) (hb hby d1_7) (q := 10) rfl ?_
                          refine EKit.lloadN X47 hx rfl (hb hby d1_10) (q := 11) rfl ?_
                          obtain ⟨T49, X49, e49, st49⟩ := getS X47 hx hZ (host := "") hown (hw _ (List.mem_of_getElem? (i := 24) rfl)) Via.refl e47 S_P (g := (mkF m 11 #[.val (.long q0), .second, .val (.int (13 : Int32))] [(.long q0)])) rfl (hb hby d1_11)
                          refine EKit.step st49 ?_
                          show EKit.Ends p l e ({ frames := 0, cells := 0, slots := 0, locals := 0 } : Room) s m #[(.long q0)] below meth c ({ frames := 0, cells := 0, slots := 0, locals := 0 } : Room).cells ({ frames := 0, cells := 0, slots := 0, locals := 0 } : Room).slots (RetQ (some (.int (own_len q0))) h0) T49 (mkF m 14 #[.val (.long q0), .second, .val (.int (13 : Int32))] [(.ref w_P), (.long q0)])
                          refine EKit.iloadN X49 hx rfl (hb hby d1_14) (q := 15) rfl ?_
                          refine EKit.laload X49 hx hZ e49 A_P (by decide) (by decide) (v := (.long (10000000000000 : Int64))) (congrArg Value.long own_pow13) (hb hby d1_15) (q := 16) rfl ?_
                          refine EKit.lcmp X49 hx  (hb hby d1_16) (q := 17) rfl ?_
                          by_cases h17_50 : q0 < (10000000000000 : Int64)
                          · skip
                            refine EKit.ifYes X49 hx (EKit.c_t (tlt (EKit.l_t h17_50)).1) (hb hby d1_17) (by decide) (q := 26) (by decide) ?_
                            refine EKit.iloadN X49 hx rfl (hb hby d1_26) (q := 27) rfl ?_
                            exact EKit.retI X49 hx hret (hb hby d1_27) (⟨by simp [own_len, h17, h17_6, h17_10, h17_14, h17_18, h17_22, h17_26, h17_30, h17_34, h17_38, h17_42, h17_46, h17_50], e49, rfl⟩) (by decide) (by decide)
                          · skip
                            refine EKit.ifNo X49 hx (EKit.c_t (flt (EKit.l_f h17_50)).1) (hb hby d1_17) (q := 20) rfl ?_
                            refine EKit.iinc X49 hx rfl (v := (14 : Int32)) rfl (l' := #[.val (.long q0), .second, .val (.int (14 : Int32))]) rfl (hb hby d1_20) (q := 23) rfl ?_
                            refine EKit.goto X49 hx (hb hby d1_23) (by decide) (q := 2) (by decide) ?_
                            refine EKit.iloadN X49 hx rfl (hb hby d1_2) (q := 3) rfl ?_
                            obtain ⟨T51, X51, e51, st51⟩ := getS X49 hx hZ (host := "") hown (hw _ (List.mem_of_getElem? (i := 24) rfl)) Via.refl e49 S_P (g := (mkF m 3 #[.val (.long q0), .second, .val (.int (14 : Int32))] [(.int (14 : Int32))])) rfl (hb hby d1_3)
                            refine EKit.step st51 ?_
                            show EKit.Ends p l e ({ frames := 0, cells := 0, slots := 0, locals := 0 } : Room) s m #[(.long q0)] below meth c ({ frames := 0, cells := 0, slots := 0, locals := 0 } : Room).cells ({ frames := 0, cells := 0, slots := 0, locals := 0 } : Room).slots (RetQ (some (.int (own_len q0))) h0) T51 (mkF m 6 #[.val (.long q0), .second, .val (.int (14 : Int32))] [(.ref w_P), (.int (14 : Int32))])
                            refine EKit.alen X51 hx hZ e51 A_P (hb hby d1_6) (q := 7) rfl ?_
                            have h7_52 : (14 : Int32) < (19 : Int32) := by decide
                            refine EKit.icmpNo X51 hx ((tlt h7_52).2.1) (hb hby d1_7) (q := 10) rfl ?_
                            refine EKit.lloadN X51 hx rfl (hb hby d1_10) (q := 11) rfl ?_
                            obtain ⟨T53, X53, e53, st53⟩ := getS X51 hx hZ (host := "") hown (hw _ (List.mem_of_getElem? (i := 24) rfl)) Via.refl e51 S_P (g := (mkF m 11 #[.val (.long q0), .second, .val (.int (14 : Int32))] [(.long q0)])) rfl (hb hby d1_11)
                            refine EKit.step st53 ?_
                            show EKit.Ends p l e ({ frames := 0, cells := 0, slots := 0, locals := 0 } : Room) s m #[(.long q0)] below meth c ({ frames := 0, cells := 0, slots := 0, locals := 0 } : Room).cells ({ frames := 0, cells := 0, slots := 0, locals := 0 } : Room).slots (RetQ (some (.int (own_len q0))) h0) T53 (mkF m 14 #[.val (.long q0), .second, .val (.int (14 : Int32))] [(.ref w_P), (.long q0)])
                            refine EKit.iloadN X53 hx rfl (hb hby d1_14) (q := 15) rfl ?_
                            refine EKit.laload X53 hx hZ e53 A_P (by decide) (by decide) (v := (.long (100000000000000 : Int64))) (congrArg Value.long own_pow14) (hb hby d1_15) (q := 16) rfl ?_
                            refine EKit.lcmp X53 hx  (hb hby d1_16) (q := 17) rfl ?_
                            by_cases h17_54 : q0 < (100000000000000 : Int64)
                            · skip
                              refine EKit.ifYes X53 hx (EKit.c_t (tlt (EKit.l_t h17_54)).1) (hb hby d1_17) (by decide) (q := 26) (by decide) ?_
                              refine EKit.iloadN X53 hx rfl (hb hby d1_26) (q := 27) rfl ?_
                              exact EKit.retI X53 hx hret (hb hby d1_27) (⟨by simp [own_len, h17, h17_6, h17_10, h17_14, h17_18, h17_22, h17_26, h17_30, h17_34, h17_38, h17_42, h17_46, h17_50, h17_54], e53, rfl⟩) (by decide) (by decide)
                            · skip
                              refine EKit.ifNo X53 hx (EKit.c_t (flt (EKit.l_f h17_54)).1) (hb hby d1_17) (q := 20) rfl ?_
                              refine EKit.iinc X53 hx rfl (v := (15 : Int32)) rfl (l' := #[.val (.long q0), .second, .val (.int (15 : Int32))]) rfl (hb hby d1_20) (q := 23) rfl ?_
                              refine EKit.goto X53 hx (hb hby d1_23) (by decide) (q := 2) (by decide) ?_
                              refine EKit.iloadN X53 hx rfl (hb hby d1_2) (q := 3) rfl ?_
                              obtain ⟨T55, X55, e55, st55⟩ := getS X53 hx hZ (host := "") hown (hw _ (List.mem_of_getElem? (i := 24) rfl)) Via.refl e53 S_P (g := (mkF m 3 #[.val (.long q0), .second, .val (.int (15 : Int32))] [(.int (15 : Int32))])) rfl (hb hby d1_3)
                              refine EKit.step st55 ?_
                              show EKit.Ends p l e ({ frames := 0, cells := 0, slots := 0, locals := 0 } : Room) s m #[(.long q0)] below meth c ({ frames := 0, cells := 0, slots := 0, locals := 0 } : Room).cells ({ frames := 0, cells := 0, slots := 0, locals := 0 } : Room).slots (RetQ (some (.int (own_len q0))) h0) T55 (mkF m 6 #[.val (.long q0), .second, .val (.int (15 : Int32))] [(.ref w_P), (.int (15 : Int32))])
                              refine EKit.alen X55 hx hZ e55 A_P (hb hby d1_6) (q := 7) rfl ?_
                              have h7_56 : (15 : Int32) < (19 : Int32) := by decide
                              refine EKit.icmpNo X55 hx ((tlt h7_56).2.1) (hb hby d1_7) (q := 10) rfl ?_
                              refine EKit.lloadN X55 hx rfl (hb hby d1_10) (q := 11) rfl ?_
                              obtain ⟨T57, X57, e57, st57⟩ := getS X55 hx hZ (host := "") hown (hw _ (List.mem_of_getElem? (i := 24) rfl)) Via.refl e55 S_P (g := (mkF m 11 #[.val (.long q0), .second, .val (.int (15 : Int32))] [(.long q0)])) rfl (hb hby d1_11)
                              refine EKit.step st57 ?_
                              show EKit.Ends p l e ({ frames := 0, cells := 0, slots := 0, locals := 0 } : Room) s m #[(.long q0)] below meth c ({ frames := 0, cells := 0, slots := 0, locals := 0 } : Room).cells ({ frames := 0, cells := 0, slots := 0, locals := 0 } : Room).slots (RetQ (some (.int (own_len q0))) h0) T57 (mkF m 14 #[.val (.long q0), .second, .val (.int (15 : Int32))] [(.ref w_P), (.long q0)])
                              refine EKit.iloadN X57 hx rfl (hb hby d1_14) (q := 15) rfl ?_
                              refine EKit.laload X57 hx hZ e57 A_P (by decide) (by decide) (v := (.long (1000000000000000 : Int64))) (congrArg Value.long own_pow15) (hb hby d1_15) (q := 16) rfl ?_
                              refine EKit.lcmp X57 hx  (hb hby d1_16) (q := 17) rfl ?_
                              by_cases h17_58 : q0 < (1000000000000000 : Int64)
                              · skip
                                refine EKit.ifYes X57 hx (EKit.c_t (tlt (EKit.l_t h17_58)).1) (hb hby d1_17) (by decide) (q := 26) (by decide) ?_
                                refine EKit.iloadN X57 hx rfl (hb hby d1_26) (q := 27) rfl ?_
                                exact EKit.retI X57 hx hret (hb hby d1_27) (⟨by simp [own_len, h17, h17_6, h17_10, h17_14, h17_18, h17_22, h17_26, h17_30, h17_34, h17_38, h17_42, h17_46, h17_50, h17_54, h17_58], e57, rfl⟩) (by decide) (by decide)
                              · skip
                                refine EKit.ifNo X57 hx (EKit.c_t (flt (EKit.l_f h17_58)).1) (hb hby d1_17) (q := 20) rfl ?_
                                refine EKit.iinc X57 hx rfl (v := (16 : Int32)) rfl (l' := #[.val (.long q0), .second, .val (.int (16 : Int32))]) rfl (hb hby d1_20) (q := 23) rfl ?_
                                refine EKit.goto X57 hx (hb hby d1_23) (by decide) (q := 2) (by decide) ?_
                                refine EKit.iloadN X57 hx rfl (hb hby d1_2) (q := 3) rfl ?_
                                obtain ⟨T59, X59, e59, st59⟩ := getS X57 hx hZ (host := "") hown (hw _ (List.mem_of_getElem? (i := 24) rfl)) Via.refl e57 S_P (g := (mkF m 3 #[.val (.long q0), .second, .val (.int (16 : Int32))] [(.int (16 : Int32))])) rfl (hb hby d1_3)
                                refine EKit.step st59 ?_
                                show EKit.Ends p l e ({ frames := 0, cells := 0, slots := 0, locals := 0 } : Room) s m #[(.long q0)] below meth c ({ frames := 0, cells := 0, slots := 0, locals := 0 } : Room).cells ({ frames := 0, cells := 0, slots := 0, locals := 0 } : Room).slots (RetQ (some (.int (own_len q0))) h0) T59 (mkF m 6 #[.val (.long q0), .second, .val (.int (16 : Int32))] [(.ref w_P), (.int (16 : Int32))])
                                refine EKit.alen X59 hx hZ e59 A_P (hb hby d1_6) (q := 7) rfl ?_
                                have h7_60 : (16 : Int32) < (19 : Int32) := by decide
                                refine EKit.icmpNo X59 hx ((tlt h7_60).2.1) (hb hby d1_7) (q := 10) rfl ?_
                                refine EKit.lloadN X59 hx rfl (hb hby d1_10) (q := 11) rfl ?_
                                obtain ⟨T61, X61, e61, st61⟩ := getS X59 hx hZ (host := "") hown (hw _ (List.mem_of_getElem? (i := 24) rfl)) Via.refl e59 S_P (g := (mkF m 11 #[.val (.long q0), .second, .val (.int (16 : Int32))] [(.long q0)])) rfl (hb hby d1_11)
                                refine EKit.step st61 ?_
                                show EKit.Ends p l e ({ frames := 0, cells := 0, slots := 0, locals := 0 } : Room) s m #[(.long q0)] below meth c ({ frames := 0, cells := 0, slots := 0, locals := 0 } : Room).cells ({ frames := 0, cells := 0, slots := 0, locals := 0 } : Room).slots (RetQ (some (.int (own_len q0))) h0) T61 (mkF m 14 #[.val (.long q0), .second, .val (.int (16 : Int32))] [(.ref w_P), (.long q0)])
                                refine EKit.iloadN X61 hx rfl (hb hby d1_14) (q := 15) rfl ?_
                                refine EKit.laload X61 hx hZ e61 A_P (by decide) (by decide) (v := (.long (10000000000000000 : Int64))) (congrArg Value.long own_pow16) (hb hby d1_15) (q := 16) rfl ?_
                                refine EKit.lcmp X61 hx  (hb hby d1_16) (q := 17) rfl ?_
                                by_cases h17_62 : q0 < (10000000000000000 : Int64)
                                · skip
                                  refine EKit.ifYes X61 hx (EKit.c_t (tlt (EKit.l_t h17_62)).1) (hb hby d1_17) (by decide) (q := 26) (by decide) ?_
                                  refine EKit.iloadN X61 hx rfl (hb hby d1_26) (q := 27) rfl ?_
                                  exact EKit.retI X61 hx hret (hb hby d1_27) (⟨by simp [own_len, h17, h17_6, h17_10, h17_14, h17_18, h17_22, h17_26, h17_30, h17_34, h17_38, h17_42, h17_46, h17_50, h17_54, h17_58, h17_62], e61, rfl⟩) (by decide) (by decide)
                                · skip
                                  refine EKit.ifNo X61 hx (EKit.c_t (flt (EKit.l_f h17_62)).1) (hb hby d1_17) (q := 20) rfl ?_
                                  refine EKit.iinc X61 hx rfl (v := (17 : Int32)) rfl (l' := #[.val (.long q0), .second, .val (.int (17 : Int32))]) rfl (hb hby d1_20) (q := 23) rfl ?_
                                  refine EKit.goto X61 hx (hb hby d1_23) (by decide) (q := 2) (by decide) ?_
                                  refine EKit.iloadN X61 hx rfl (hb hby d1_2) (q := 3) rfl ?_
                                  obtain ⟨T63, X63, e63, st63⟩ := getS X61 hx hZ (host := "") hown (hw _ (List.mem_of_getElem? (i := 24) rfl)) Via.refl e61 S_P (g := (mkF m 3 #[.val (.long q0), .second, .val (.int (17 : Int32))] [(.int (17 : Int32))])) rfl (hb hby d1_3)
                                  refine EKit.step st63 ?_
                                  show EKit.Ends p l e ({ frames := 0, cells := 0, slots := 0, locals := 0 } : Room) s m #[(.long q0)] below meth c ({ frames := 0, cells := 0, slots := 0, locals := 0 } : Room).cells ({ frames := 0, cells := 0, slots := 0, locals := 0 } : Room).slots (RetQ (some (.int (own_len q0))) h0) T63 (mkF m 6 #[.val (.long q0), .second, .val (.int (17 : Int32))] [(.ref w_P), (.int (17 : Int32))])
                                  refine EKit.alen X63 hx hZ e63 A_P (hb hby d1_6) (q := 7) rfl ?_
                                  have h7_64 : (17 : Int32) < (19 : Int32) := by decide
                                  refine EKit.icmpNo X63 hx ((tlt h7_64).2.1) (hb hby d1_7) (q := 10) rfl ?_
                                  refine EKit.lloadN X63 hx rfl (hb hby d1_10) (q := 11) rfl ?_
                                  obtain ⟨T65, X65, e65, st65⟩ := getS X63 hx hZ (host := "") hown (hw _ (List.mem_of_getElem? (i := 24) rfl)) Via.refl e63 S_P (g := (mkF m 11 #[.val (.long q0), .second, .val (.int (17 : Int32))] [(.long q0)])) rfl (hb hby d1_11)
                                  refine EKit.step st65 ?_
                                  show EKit.Ends p l e ({ frames := 0, cells := 0, slots := 0, locals := 0 } : Room) s m #[(.long q0)] below meth c ({ frames := 0, cells := 0, slots := 0, locals := 0 } : Room).cells ({ frames := 0, cells := 0, slots := 0, locals := 0 } : Room).slots (RetQ (some (.int (own_len q0))) h0) T65 (mkF m 14 #[.val (.long q0), .second, .val (.int (17 : Int32))] [(.ref w_P), (.long q0)])
                                  refine EKit.iloadN X65 hx rfl (hb hby d1_14) (q := 15) rfl ?_
                                  refine EKit.laload X65 hx hZ e65 A_P (by decide) (by decide) (v := (.long (100000000000000000 : Int64))) (congrArg Value.long own_pow17) (hb hby d1_15) (q := 16) rfl ?_
                                  refine EKit.lcmp X65 hx  (hb hby d1_16) (q := 17) rfl ?_
                                  by_cases h17_66 : q0 < (100000000000000000 : Int64)
                                  · skip
                                    refine EKit.ifYes X65 hx (EKit.c_t (tlt (EKit.l_t h17_66)).1) (hb hby d1_17) (by decide) (q := 26) (by decide) ?_
                                    refine EKit.iloadN X65 hx rfl (hb hby d1_26) (q := 27) rfl ?_
                                    exact EKit.retI X65 hx hret (hb hby d1_27) (⟨by simp [own_len, h17, h17_6, h17_10, h17_14, h17_18, h17_22, h17_26, h17_30, h17_34, h17_38, h17_42, h17_46, h17_50, h17_54, h17_58, h17_62, h17_66], e65, rfl⟩) (by decide) (by decide)
                                  · skip
                                    refine EKit.ifNo X65 hx (EKit.c_t (flt (EKit.l_f h17_66)).1) (hb hby d1_17) (q := 20) rfl ?_
                                    refine EKit.iinc X65 hx rfl (v := (18 : Int32)) rfl (l' := #[.val (.long q0), .second, .val (.int (18 : Int32))]) rfl (hb hby d1_20) (q := 23) rfl ?_
                                    refine EKit.goto X65 hx (hb hby d1_23) (by decide) (q := 2) (by decide) ?_
                                    refine EKit.iloadN X65 hx rfl (hb hby d1_2) (q := 3) rfl ?_
                                    obtain ⟨T67, X67, e67, st67⟩ := getS X65 hx hZ (host := "") hown (hw _ (List.mem_of_getElem? (i := 24) rfl)) Via.refl e65 S_P (g := (mkF m 3 #[.val (.long q0), .second, .val (.int (18 : Int32))] [(.int (18 : Int32))])) rfl (hb hby d1_3)
                                    refine EKit.step st67 ?_
                                    show EKit.Ends p l e ({ frames := 0, cells := 0, slots := 0, locals := 0 } : Room) s m #[(.long q0)] below meth c ({ frames := 0, cells := 0, slots := 0, locals := 0 } : Room).cells ({ frames := 0, cells := 0, slots := 0, locals := 0 } : Room).slots (RetQ (some (.int (own_len q0))) h0) T67 (mkF m 6 #[.val (.long q0), .second, .val (.int (18 : Int32))] [(.ref w_P), (.int (18 : Int32))])
                                    refine EKit.alen X67 hx hZ e67 A_P (hb hby d1_6) (q := 7) rfl ?_
                                    have h7_68 : (18 : Int32) < (19 : Int32) := by decide
                                    refine EKit.icmpNo X67 hx ((tlt h7_68).2.1) (hb hby d1_7) (q := 10) rfl ?_
                                    refine EKit.lloadN X67 hx rfl (hb hby d1_10) (q := 11) rfl ?_
                                    obtain ⟨T69, X69, e69, st69⟩ := getS X67 hx hZ (host := "") hown (hw _ (List.mem_of_getElem? (i := 24) rfl)) Via.refl e67 S_P (g := (mkF m 11 #[.val (.long q0), .second, .val (.int (18 : Int32))] [(.long q0)])) rfl (hb hby d1_11)
                                    refine EKit.step st69 ?_
                                    show EKit.Ends p l e ({ frames := 0, cells := 0, slots := 0, locals := 0 } : Room) s m #[(.long q0)] below meth c ({ frames := 0, cells := 0, slots := 0, locals := 0 } : Room).cells ({ frames := 0, cells := 0, slots := 0, locals := 0 } : Room).slots (RetQ (some (.int (own_len q0))) h0) T69 (mkF m 14 #[.val (.long q0), .second, .val (.int (18 : Int32))] [(.ref w_P), (.long q0)])
                                    refine EKit.iloadN X69 hx rfl (hb hby d1_14) (q := 15) rfl ?_
                                    refine EKit.laload X69 hx hZ e69 A_P (by decide) (by decide) (v := (.long (1000000000000000000 : Int64))) (congrArg Value.long own_pow18) (hb hby d1_15) (q := 16) rfl ?_
                                    refine EKit.lcmp X69 hx  (hb hby d1_16) (q := 17) rfl ?_
                                    by_cases h17_70 : q0 < (1000000000000000000 : Int64)
                                    · skip
                                      refine EKit.ifYes X69 hx (EKit.c_t (tlt (EKit.l_t h17_70)).1) (hb hby d1_17) (by decide) (q := 26) (by decide) ?_
                                      refine EKit.iloadN X69 hx rfl (hb hby d1_26) (q := 27) rfl ?_
                                      exact EKit.retI X69 hx hret (hb hby d1_27) (⟨by simp [own_len, h17, h17_6, h17_10, h17_14, h17_18, h17_22, h17_26, h17_30, h17_34, h17_38, h17_42, h17_46, h17_50, h17_54, h17_58, h17_62, h17_66, h17_70], e69, rfl⟩) (by decide) (by decide)
                                    · skip
                                      refine EKit.ifNo X69 hx (EKit.c_t (flt (EKit.l_f h17_70)).1) (hb hby d1_17) (q := 20) rfl ?_
                                      refine EKit.iinc X69 hx rfl (v := (19 : Int32)) rfl (l' := #[.val (.long q0), .second, .val (.int (19 : Int32))]) rfl (hb hby d1_20) (q := 23) rfl ?_
                                      refine EKit.goto X69 hx (hb hby d1_23) (by decide) (q := 2) (by decide) ?_
                                      refine EKit.iloadN X69 hx rfl (hb hby d1_2) (q := 3) rfl ?_
                                      obtain ⟨T71, X71, e71, st71⟩ := getS X69 hx hZ (host := "") hown (hw _ (List.mem_of_getElem? (i := 24) rfl)) Via.refl e69 S_P (g := (mkF m 3 #[.val (.long q0), .second, .val (.int (19 : Int32))] [(.int (19 : Int32))])) rfl (hb hby d1_3)
                                      refine EKit.step st71 ?_
                                      show EKit.Ends p l e ({ frames := 0, cells := 0, slots := 0, locals := 0 } : Room) s m #[(.long q0)] below meth c ({ frames := 0, cells := 0, slots := 0, locals := 0 } : Room).cells ({ frames := 0, cells := 0, slots := 0, locals := 0 } : Room).slots (RetQ (some (.int (own_len q0))) h0) T71 (mkF m 6 #[.val (.long q0), .second, .val (.int (19 : Int32))] [(.ref w_P), (.int (19 : Int32))])
                                      refine EKit.alen X71 hx hZ e71 A_P (hb hby d1_6) (q := 7) rfl ?_
                                      have h7_72 : ¬ ((19 : Int32) < (19 : Int32)) := by decide
                                      refine EKit.icmpYes X71 hx ((flt h7_72).2.1) (hb hby d1_7) (by decide) (q := 26) (by decide) ?_
                                      refine EKit.iloadN X71 hx rfl (hb hby d1_26) (q := 27) rfl ?_
                                      exact EKit.retI X71 hx hret (hb hby d1_27) (⟨by simp [own_len, h17, h17_6, h17_10, h17_14, h17_18, h17_22, h17_26, h17_30, h17_34, h17_38, h17_42, h17_46, h17_50, h17_54, h17_58, h17_62, h17_66, h17_70], e71, rfl⟩) (by decide) (by decide)
theorem own_cases (q : Int64) : (q < 10 ∧ own_len q = 1) ∨ (¬ q < 10 ∧ q < 100 ∧ own_len q = 2) ∨ (¬ q < 100 ∧ q < 1000 ∧ own_len q = 3) ∨ (¬ q < 1000 ∧ q < 10000 ∧ own_len q = 4) ∨ (¬ q < 10000 ∧ q < 100000 ∧ own_len q = 5) ∨ (¬ q < 100000 ∧ q < 1000000 ∧ own_len q = 6) ∨ (¬ q < 1000000 ∧ q < 10000000 ∧ own_len q = 7) ∨ (¬ q < 10000000 ∧ q < 100000000 ∧ own_len q = 8) ∨ (¬ q < 100000000 ∧ q < 1000000000 ∧ own_len q = 9) ∨ (¬ q < 1000000000 ∧ q < 10000000000 ∧ own_len q = 10) ∨ (¬ q < 10000000000 ∧ q < 100000000000 ∧ own_len q = 11) ∨ (¬ q < 100000000000 ∧ q < 1000000000000 ∧ own_len q = 12) ∨ (¬ q < 1000000000000 ∧ q < 10000000000000 ∧ own_len q = 13) ∨ (¬ q < 10000000000000 ∧ q < 100000000000000 ∧ own_len q = 14) ∨ (¬ q < 100000000000000 ∧ q < 1000000000000000 ∧ own_len q = 15) ∨ (¬ q < 1000000000000000 ∧ q < 10000000000000000 ∧ own_len q = 16) ∨ (¬ q < 10000000000000000 ∧ q < 100000000000000000 ∧ own_len q = 17) ∨ (¬ q < 100000000000000000 ∧ q < 1000000000000000000 ∧ own_len q = 18) ∨ (¬ q < 1000000000000000000 ∧ own_len q = 19) := by
  by_cases h1 : q < 10
  · exact Or.inl ⟨h1, by simp [own_len, h1]⟩
  by_cases h2 : q < 100
  · exact Or.inr (Or.inl ⟨h1, h2, by simp [own_len, h1, h2]⟩)
  by_cases h3 : q < 1000
  · exact Or.inr (Or.inr (Or.inl ⟨h2, h3, by simp [own_len, h1, h2, h3]⟩))
  by_cases h4 : q < 10000
  · exact Or.inr (Or.inr (Or.inr (Or.inl ⟨h3, h4, by simp [own_len, h1, h2, h3, h4]⟩)))
  by_cases h5 : q < 100000
  · exact Or.inr (Or.inr (Or.inr (Or.inr (Or.inl ⟨h4, h5, by simp [own_len, h1, h2, h3, h4, h5]⟩))))
  by_cases h6 : q < 1000000
  · exact Or.inr (Or.inr (Or.inr (Or.inr (Or.inr (Or.inl ⟨h5, h6, by simp [own_len, h1, h2, h3, h4, h5, h6]⟩)))))
  by_cases h7 : q < 10000000
  · exact Or.inr (Or.inr (Or.inr (Or.inr (Or.inr (Or.inr (Or.inl ⟨h6, h7, by simp [own_len, h1, h2, h3, h4, h5, h6, h7]⟩))))))
  by_cases h8 : q < 100000000
  · exact Or.inr (Or.inr (Or.inr (Or.inr (Or.inr (Or.inr (Or.inr (Or.inl ⟨h7, h8, by simp [own_len, h1, h2, h3, h4, h5, h6, h7, h8]⟩)))))))
  by_cases h9 : q < 1000000000
  · exact Or.inr (Or.inr (Or.inr (Or.inr (Or.inr (Or.inr (Or.inr (Or.inr (Or.inl ⟨h8, h9, by simp [own_len, h1, h2, h3, h4, h5, h6, h7, h8, h9]⟩))))))))
  by_cases h10 : q < 10000000000
  · exact Or.inr (Or.inr (Or.inr (Or.inr (Or.inr (Or.inr (Or.inr (Or.inr (Or.inr (Or.inl ⟨h9, h10, by simp [own_len, h1, h2, h3, h4, h5, h6, h7, h8, h9, h10]⟩)))))))))
  by_cases h11 : q < 100000000000
  · exact Or.inr (Or.inr (Or.inr (Or.inr (Or.inr (Or.inr (Or.inr (Or.inr (Or.inr (Or.inr (Or.inl ⟨h10, h11, by simp [own_len, h1, h2, h3, h4, h5, h6, h7, h8, h9, h10, h11]⟩))))))))))
  by_cases h12 : q < 1000000000000
  · exact Or.inr (Or.inr (Or.inr (Or.inr (Or.inr (Or.inr (Or.inr (Or.inr (Or.inr (Or.inr (Or.inr (Or.inl ⟨h11, h12, by simp [own_len, h1, h2, h3, h4, h5, h6, h7, h8, h9, h10, h11, h12]⟩)))))))))))
  by_cases h13 : q < 10000000000000
  · exact Or.inr (Or.inr (Or.inr (Or.inr (Or.inr (Or.inr (Or.inr (Or.inr (Or.inr (Or.inr (Or.inr (Or.inr (Or.inl ⟨h12, h13, by simp [own_len, h1, h2, h3, h4, h5, h6, h7, h8, h9, h10, h11, h12, h13]⟩))))))))))))
  by_cases h14 : q < 100000000000000
  · exact Or.inr (Or.inr (Or.inr (Or.inr (Or.inr (Or.inr (Or.inr (Or.inr (Or.inr (Or.inr (Or.inr (Or.inr (Or.inr (Or.inl ⟨h13, h14, by simp [own_len, h1, h2, h3, h4, h5, h6, h7, h8, h9, h10, h11, h12, h13, h14]⟩)))))))))))))
  by_cases h15 : q < 1000000000000000
  · exact Or.inr (Or.inr (Or.inr (Or.inr (Or.inr (Or.inr (Or.inr (Or.inr (Or.inr (Or.inr (Or.inr (Or.inr (Or.inr (Or.inr (Or.inl ⟨h14, h15, by simp [own_len, h1, h2, h3, h4, h5, h6, h7, h8, h9, h10, h11, h12, h13, h14, h15]⟩))))))))))))))
  by_cases h16 : q < 10000000000000000
  · exact Or.inr (Or.inr (Or.inr (Or.inr (Or.inr (Or.inr (Or.inr (Or.inr (Or.inr (Or.inr (Or.inr (Or.inr (Or.inr (Or.inr (Or.inr (Or.inl ⟨h15, h16, by simp [own_len, h1, h2, h3, h4, h5, h6, h7, h8, h9, h10, h11, h12, h13, h14, h15, h16]⟩)))))))))))))))
  by_cases h17 : q < 100000000000000000
  · exact Or.inr (Or.inr (Or.inr (Or.inr (Or.inr (Or.inr (Or.inr (Or.inr (Or.inr (Or.inr (Or.inr (Or.inr (Or.inr (Or.inr (Or.inr (Or.inr (Or.inl ⟨h16, h17, by simp [own_len, h1, h2, h3, h4, h5, h6, h7, h8, h9, h10, h11, h12, h13, h14, h15, h16, h17]⟩))))))))))))))))
  by_cases h18 : q < 1000000000000000000
  · exact Or.inr (Or.inr (Or.inr (Or.inr (Or.inr (Or.inr (Or.inr (Or.inr (Or.inr (Or.inr (Or.inr (Or.inr (Or.inr (Or.inr (Or.inr (Or.inr (Or.inr (Or.inl ⟨h17, h18, by simp [own_len, h1, h2, h3, h4, h5, h6, h7, h8, h9, h10, h11, h12, h13, h14, h15, h16, h17, h18]⟩)))))))))))))))))
  exact Or.inr (Or.inr (Or.inr (Or.inr (Or.inr (Or.inr (Or.inr (Or.inr (Or.inr (Or.inr (Or.inr (Or.inr (Or.inr (Or.inr (Or.inr (Or.inr (Or.inr (Or.inr (⟨h18, by simp [own_len, h1, h2, h3, h4, h5, h6, h7, h8, h9, h10, h11, h12, h13, h14, h15, h16, h17, h18]⟩))))))))))))))))))
theorem own_pat (j : Int32) (hj : j = 0 ∨ j = 1 ∨ j = 2 ∨ j = 3 ∨ j = 4 ∨ j = 5 ∨ j = 6 ∨ j = 7 ∨ j = 8 ∨ j = 9 ∨ j = 10 ∨ j = 11 ∨ j = 12 ∨ j = 13 ∨ j = 14 ∨ j = 15 ∨ j = 16 ∨ j = 17 ∨ j = 18) : (if j = 18 then .long (1000000000000000000 : Int64) else if j = 17 then .long (100000000000000000 : Int64) else if j = 16 then .long (10000000000000000 : Int64) else if j = 15 then .long (1000000000000000 : Int64) else if j = 14 then .long (100000000000000 : Int64) else if j = 13 then .long (10000000000000 : Int64) else if j = 12 then .long (1000000000000 : Int64) else if j = 11 then .long (100000000000 : Int64) else if j = 10 then .long (10000000000 : Int64) else if j = 9 then .long (1000000000 : Int64) else if j = 8 then .long (100000000 : Int64) else if j = 7 then .long (10000000 : Int64) else if j = 6 then .long (1000000 : Int64) else if j = 5 then .long (100000 : Int64) else if j = 4 then .long (10000 : Int64) else if j = 3 then .long (1000 : Int64) else if j = 2 then .long (100 : Int64) else if j = 1 then .long (10 : Int64) else if j = 0 then .long (1 : Int64) else .long (0 : Int64) : Value) = .long (own_pow j) := by
  rcases hj with rfl | rfl | rfl | rfl | rfl | rfl | rfl | rfl | rfl | rfl | rfl | rfl | rfl | rfl | rfl | rfl | rfl | rfl | rfl <;> first | rfl | (simp [own_pow])
theorem own_1 (q : Int64) : ¬ own_len q < 1 ∧ ¬ 19 < own_len q := by
  rcases own_cases q with ⟨h1, e⟩ | ⟨h1, h2, e⟩ | ⟨h1, h2, e⟩ | ⟨h1, h2, e⟩ | ⟨h1, h2, e⟩ | ⟨h1, h2, e⟩ | ⟨h1, h2, e⟩ | ⟨h1, h2, e⟩ | ⟨h1, h2, e⟩ | ⟨h1, h2, e⟩ | ⟨h1, h2, e⟩ | ⟨h1, h2, e⟩ | ⟨h1, h2, e⟩ | ⟨h1, h2, e⟩ | ⟨h1, h2, e⟩ | ⟨h1, h2, e⟩ | ⟨h1, h2, e⟩ | ⟨h1, h2, e⟩ | ⟨h1, e⟩ <;> rw [e] <;> decide
theorem own_2 (q : Int64) (h : ¬ own_len q = 1) : (¬ own_len q - 1 < 0 ∧ own_len q - 1 < 19) ∧ (own_len q - 1 = 0 ∨ own_len q - 1 = 1 ∨ own_len q - 1 = 2 ∨ own_len q - 1 = 3 ∨ own_len q - 1 = 4 ∨ own_len q - 1 = 5 ∨ own_len q - 1 = 6 ∨ own_len q - 1 = 7 ∨ own_len q - 1 = 8 ∨ own_len q - 1 = 9 ∨ own_len q - 1 = 10 ∨ own_len q - 1 = 11 ∨ own_len q - 1 = 12 ∨ own_len q - 1 = 13 ∨ own_len q - 1 = 14 ∨ own_len q - 1 = 15 ∨ own_len q - 1 = 16 ∨ own_len q - 1 = 17 ∨ own_len q - 1 = 18) ∧ ¬ q < own_pow (own_len q - 1) := by
  rcases own_cases q with ⟨h1, e⟩ | ⟨h1, h2, e⟩ | ⟨h1, h2, e⟩ | ⟨h1, h2, e⟩ | ⟨h1, h2, e⟩ | ⟨h1, h2, e⟩ | ⟨h1, h2, e⟩ | ⟨h1, h2, e⟩ | ⟨h1, h2, e⟩ | ⟨h1, h2, e⟩ | ⟨h1, h2, e⟩ | ⟨h1, h2, e⟩ | ⟨h1, h2, e⟩ | ⟨h1, h2, e⟩ | ⟨h1, h2, e⟩ | ⟨h1, h2, e⟩ | ⟨h1, h2, e⟩ | ⟨h1, h2, e⟩ | ⟨h1, e⟩
  · exact absurd e h
  · rw [e, show (2 : Int32) - 1 = 1 from by decide, own_pow1]; exact ⟨by decide, by decide, h1⟩
  · rw [e, show (3 : Int32) - 1 = 2 from by decide, own_pow2]; exact ⟨by decide, by decide, h1⟩
  · rw [e, show (4 : Int32) - 1 = 3 from by decide, own_pow3]; exact ⟨by decide, by decide, h1⟩
  · rw [e, show (5 : Int32) - 1 = 4 from by decide, own_pow4]; exact ⟨by decide, by decide, h1⟩
  · rw [e, show (6 : Int32) - 1 = 5 from by decide, own_pow5]; exact ⟨by decide, by decide, h1⟩
  · rw [e, show (7 : Int32) - 1 = 6 from by decide, own_pow6]; exact ⟨by decide, by decide, h1⟩
  · rw [e, show (8 : Int32) - 1 = 7 from by decide, own_pow7]; exact ⟨by decide, by decide, h1⟩
  · rw [e, show (9 : Int32) - 1 = 8 from by decide, own_pow8]; exact ⟨by decide, by decide, h1⟩
  · rw [e, show (10 : Int32) - 1 = 9 from by decide, own_pow9]; exact ⟨by decide, by decide, h1⟩
  · rw [e, show (11 : Int32) - 1 = 10 from by decide, own_pow10]; exact ⟨by decide, by decide, h1⟩
  · rw [e, show (12 : Int32) - 1 = 11 from by decide, own_pow11]; exact ⟨by decide, by decide, h1⟩
  · rw [e, show (13 : Int32) - 1 = 12 from by decide, own_pow12]; exact ⟨by decide, by decide, h1⟩
  · rw [e, show (14 : Int32) - 1 = 13 from by decide, own_pow13]; exact ⟨by decide, by decide, h1⟩
  · rw [e, show (15 : Int32) - 1 = 14 from by decide, own_pow14]; exact ⟨by decide, by decide, h1⟩
  · rw [e, show (16 : Int32) - 1 = 15 from by decide, own_pow15]; exact ⟨by decide, by decide, h1⟩
  · rw [e, show (17 : Int32) - 1 = 16 from by decide, own_pow16]; exact ⟨by decide, by decide, h1⟩
  · rw [e, show (18 : Int32) - 1 = 17 from by decide, own_pow17]; exact ⟨by decide, by decide, h1⟩
  · rw [e, show (19 : Int32) - 1 = 18 from by decide, own_pow18]; exact ⟨by decide, by decide, h1⟩
theorem own_3 (q : Int64) (h : ¬ own_len q = 19) : (¬ own_len q < 0 ∧ own_len q < 19) ∧ (own_len q = 0 ∨ own_len q = 1 ∨ own_len q = 2 ∨ own_len q = 3 ∨ own_len q = 4 ∨ own_len q = 5 ∨ own_len q = 6 ∨ own_len q = 7 ∨ own_len q = 8 ∨ own_len q = 9 ∨ own_len q = 10 ∨ own_len q = 11 ∨ own_len q = 12 ∨ own_len q = 13 ∨ own_len q = 14 ∨ own_len q = 15 ∨ own_len q = 16 ∨ own_len q = 17 ∨ own_len q = 18) ∧ q < own_pow (own_len q) := by
  rcases own_cases q with ⟨h1, e⟩ | ⟨h1, h2, e⟩ | ⟨h1, h2, e⟩ | ⟨h1, h2, e⟩ | ⟨h1, h2, e⟩ | ⟨h1, h2, e⟩ | ⟨h1, h2, e⟩ | ⟨h1, h2, e⟩ | ⟨h1, h2, e⟩ | ⟨h1, h2, e⟩ | ⟨h1, h2, e⟩ | ⟨h1, h2, e⟩ | ⟨h1, h2, e⟩ | ⟨h1, h2, e⟩ | ⟨h1, h2, e⟩ | ⟨h1, h2, e⟩ | ⟨h1, h2, e⟩ | ⟨h1, h2, e⟩ | ⟨h1, e⟩
  · rw [e, own_pow1]; exact ⟨by decide, by decide, h1⟩
  · rw [e, own_pow2]; exact ⟨by decide, by decide, h2⟩
  · rw [e, own_pow3]; exact ⟨by decide, by decide, h2⟩
  · rw [e, own_pow4]; exact ⟨by decide, by decide, h2⟩
  · rw [e, own_pow5]; exact ⟨by decide, by decide, h2⟩
  · rw [e, own_pow6]; exact ⟨by decide, by decide, h2⟩
  · rw [e, own_pow7]; exact ⟨by decide, by decide, h2⟩
  · rw [e, own_pow8]; exact ⟨by decide, by decide, h2⟩
  · rw [e, own_pow9]; exact ⟨by decide, by decide, h2⟩
  · rw [e, own_pow10]; exact ⟨by decide, by decide, h2⟩
  · rw [e, own_pow11]; exact ⟨by decide, by decide, h2⟩
  · rw [e, own_pow12]; exact ⟨by decide, by decide, h2⟩
  · rw [e, own_pow13]; exact ⟨by decide, by decide, h2⟩
  · rw [e, own_pow14]; exact ⟨by decide, by decide, h2⟩
  · rw [e, own_pow15]; exact ⟨by decide, by decide, h2⟩
  · rw [e, own_pow16]; exact ⟨by decide, by decide, h2⟩
  · rw [e, own_pow17]; exact ⟨by decide, by decide, h2⟩
  · rw [e, own_pow18]; exact ⟨by decide, by decide, h2⟩
  · exact absurd e h
theorem ef_rm0 (m : MethodId) (x0 : Int64) (x1 : Int32) : entryFrame m #[(.long x0), (.int x1)] maxLocals = mkF m 0 #[.val (.long x0), .second, .val (.int x1), .unset, .unset, .unset, .unset, .unset, .unset] [] := by first | (simp [entryFrame, mkF, argsToLocals, Value.category, maxLocals]; done) | rfl
theorem pn_com_example_mirrorgauge_mirrorgauge_message_DecimalLengthPinLaw : plainName "com/example/mirrorgauge/mirrorgauge/message/DecimalLengthPinLaw" = true := by first | (simp [plainName, overriddenIn]; done) | decide +kernel
theorem pd__J_I : parseMethodDescriptor "(J)I" = some ⟨[.long], some .int⟩ := by decide +kernel
set_option maxRecDepth 65536 in
set_option maxHeartbeats 40000000 in
theorem rm0 (l : Launch) (Z : State) (a0 : Array Value) (hw : ∀ d ∈ tables_1, d.before a0 Z = true) (ws : List Jvm.Cond) (q0 : Int64) (p1 : Int32) (h0 : Heap)  (w_P : Addr) (kk : ClassId) (S_P : Sta Z h0 "com/example/mirrorgauge/mirrorgauge/message/Decimal" "POWERS" "[J" (.ref w_P)) (A_P : Ary Z h0 w_P kk .long (19 : Int32) (fun j => .long (own_pow j))) :
    Pays l Z x code maxLocals ret ws room_1 #[(.long q0), (.int p1)] h0 (fun v h L => v = some (.int (1 : Int32)) ∧ Fr h0.size L) := by
  refine EKit.pays (plainFor_of_name pn_com_example_mirrorgauge_mirrorgauge_message_DecimalLengthPinLaw) (fun m => ef_rm0 m q0 p1) ?_
  intro p e s m below meth c s₁ hx hby hml hZ hown hnm hret X0 e0 hs0
  refine EKit.bipush X0 hx (v := (19 : Int32)) rfl (hb hby at_0) (q := 2) rfl ?_
  refine EKit.newarr X0 hx hZ e0 (hw _ (List.mem_of_getElem? (i := 0) rfl)) (by decide) (cap := 19) (by decide) (by decide) (by decide) (by decide) (hb hby at_2) (q := 4) rfl ?_
  intro T1 h1 b1 k1 X1 e1 E1 g1 V1
  have V1 : Ary Z h1 b1 k1 .long (19 : Int32) (fun _ => (.long (0 : Int64))) := V1
  have gn_b1 : h0.size ≤ b1 := Nat.le_trans (Nat.le_refl _) (Nat.le_of_eq g1.symm)
  have sz1 : h0.size ≤ h1.size := Nat.le_trans (Nat.le_refl _) E1.1
  have EX1 := E1
  show EKit.Ends p l e room_1 s m #[(.long q0), (.int p1)] below meth c room_1.cells room_1.slots (fun v h L => v = some (.int (1 : Int32)) ∧ Fr h0.size L) T1 (mkF m 4 #[.val (.long q0), .second, .val (.int p1), .unset, .unset, .unset, .unset, .unset, .unset] [(.ref b1)])
  refine EKit.dup X1 hx rfl (hb hby at_4) (q := 5) rfl ?_
  refine EKit.iconst X1 hx (v := (0 : Int32)) rfl (hb hby at_5) (q := 6) rfl ?_
  refine EKit.lconst X1 hx (v := (1 : Int64)) rfl (hb hby at_6) (q := 7) rfl ?_
  refine EKit.lastore X1 hx hZ e1 V1 (by decide) (by decide) (hb hby at_7) (q := 8) rfl ?_
  intro T2 h2 X2 e2 W2 V2
  have X2 := Stand.forget X2 (fun y hy => by cases List.mem_singleton.mp hy; rw [hs0]; exact gn_b1)
  have sz2 : h0.size ≤ h2.size := Nat.le_trans sz1 (Keep.of_wr W2).1
  have EX2 := EKit.Ext_wr EX1 W2 gn_b1
  refine EKit.dup X2 hx rfl (hb hby at_8) (q := 9) rfl ?_
  refine EKit.iconst X2 hx (v := (1 : Int32)) rfl (hb hby at_9) (q := 10) rfl ?_
  refine EKit.ldc2Long X2 hx hZ hown (hw _ (List.mem_of_getElem? (i := 1) rfl)) (hb hby at_10) (q := 13) rfl ?_
  refine EKit.lastore X2 hx hZ e2 V2 (by decide) (by decide) (hb hby at_13) (q := 14) rfl ?_
  intro T3 h3 X3 e3 W3 V3
  have X3 := Stand.forget X3 (fun y hy => by cases List.mem_singleton.mp hy; rw [hs0]; exact gn_b1)
  have sz3 : h0.size ≤ h3.size := Nat.le_trans sz2 (Keep.of_wr W3).1
  have EX3 := EKit.Ext_wr EX2 W3 gn_b1
  refine EKit.dup X3 hx rfl (hb hby at_14) (q := 15) rfl ?_
  refine EKit.iconst X3 hx (v := (2 : Int32)) rfl (hb hby at_15) (q := 16) rfl ?_
  refine EKit.ldc2Long X3 hx hZ hown (hw _ (List.mem_of_getElem? (i := 2) rfl)) (hb hby at_16) (q := 19) rfl ?_
  refine EKit.lastore X3 hx hZ e3 V3 (by decide) (by decide) (hb hby at_19) (q := 20) rfl ?_
  intro T4 h4 X4 e4 W4 V4
  have X4 := Stand.forget X4 (fun y hy => by cases List.mem_singleton.mp hy; rw [hs0]; exact gn_b1)
  have sz4 : h0.size ≤ h4.size := Nat.le_trans sz3 (Keep.of_wr W4).1
  have EX4 := EKit.Ext_wr EX3 W4 gn_b1
  refine EKit.dup X4 hx rfl (hb hby at_20) (q := 21) rfl ?_
  refine EKit.iconst X4 hx (v := (3 : Int32)) rfl (hb hby at_21) (q := 22) rfl ?_
  refine EKit.ldc2Long X4 hx hZ hown (hw _ (List.mem_of_getElem? (i := 3) rfl)) (hb hby at_22) (q := 25) rfl ?_
  refine EKit.lastore X4 hx hZ e4 V4 (by decide) (by decide) (hb hby at_25) (q := 26) rfl ?_
  intro T5 h5 X5 e5 W5 V5
  have X5 := Stand.forget X5 (fun y hy => by cases List.mem_singleton.mp hy; rw [hs0]; exact gn_b1)
  have sz5 : h0.size ≤ h5.size := Nat.le_trans sz4 (Keep.of_wr W5).1
  have EX5 := EKit.Ext_wr EX4 W5 gn_b1
  refine EKit.dup X5 hx rfl (hb hby at_26) (q := 27) rfl ?_
  refine EKit.iconst X5 hx (v := (4 : Int32)) rfl (hb hby at_27) (q := 28) rfl ?_
  refine EKit.ldc2Long X5 hx hZ hown (hw _ (List.mem_of_getElem? (i := 4) rfl)) (hb hby at_28) (q := 31) rfl ?_
  refine EKit.lastore X5 hx hZ e5 V5 (by decide) (by decide) (hb hby at_31) (q := 32) rfl ?_
  intro T6 h6 X6 e6 W6 V6
  have X6 := Stand.forget X6 (fun y hy => by cases List.mem_singleton.mp hy; rw [hs0]; exact gn_b1)
  have sz6 : h0.size ≤ h6.size := Nat.le_trans sz5 (Keep.of_wr W6).1
  have EX6 := EKit.Ext_wr EX5 W6 gn_b1
  refine EKit.dup X6 hx rfl (hb hby at_32) (q := 33) rfl ?_
  refine EKit.iconst X6 hx (v := (5 : Int32)) rfl (hb hby at_33) (q := 34) rfl ?_
  refine EKit.ldc2Long X6 hx hZ hown (hw _ (List.mem_of_getElem? (i := 5) rfl)) (hb hby at_34) (q := 37) rfl ?_
  refine EKit.lastore X6 hx hZ e6 V6 (by decide) (by decide) (hb hby at_37) (q := 38) rfl ?_
  intro T7 h7 X7 e7 W7 V7
  have X7 := Stand.forget X7 (fun y hy => by cases List.mem_singleton.mp hy; rw [hs0]; exact gn_b1)
  have sz7 : h0.size ≤ h7.size := Nat.le_trans sz6 (Keep.of_wr W7).1
  have EX7 := EKit.Ext_wr EX6 W7 gn_b1
  refine EKit.dup X7 hx rfl (hb hby at_38) (q := 39) rfl ?_
  refine EKit.bipush X7 hx (v := (6 : Int32)) rfl (hb hby at_39) (q := 41) rfl ?_
  refine EKit.ldc2Long X7 hx hZ hown (hw _ (List.mem_of_getElem? (i := 6) rfl)) (hb hby at_41) (q := 44) rfl ?_
  refine EKit.lastore X7 hx hZ e7 V7 (by decide) (by decide) (hb hby at_44) (q := 45) rfl ?_
  intro T8 h8 X8 e8 W8 V8
  have X8 := Stand.forget X8 (fun y hy => by cases List.mem_singleton.mp hy; rw [hs0]; exact gn_b1)
  have sz8 : h0.size ≤ h8.size := Nat.le_trans sz7 (Keep.of_wr W8).1
  have EX8 := EKit.Ext_wr EX7 W8 gn_b1
  refine EKit.dup X8 hx rfl (hb hby at_45) (q := 46) rfl ?_
  refine EKit.bipush X8 hx (v := (7 : Int32)) rfl (hb hby at_46) (q := 48) rfl ?_
  refine EKit.ldc2Long X8 hx hZ hown (hw _ (List.mem_of_getElem? (i := 7) rfl)) (hb hby at_48) (q := 51) rfl ?_
  refine EKit.lastore X8 hx hZ e8 V8 (by decide) (by decide) (hb hby at_51) (q := 52) rfl ?_
  intro T9 h9 X9 e9 W9 V9
  have X9 := Stand.forget X9 (fun y hy => by cases List.mem_singleton.mp hy; rw [hs0]; exact gn_b1)
  have sz9 : h0.size ≤ h9.size := Nat.le_trans sz8 (Keep.of_wr W9).1
  have EX9 := EKit.Ext_wr EX8 W9 gn_b1
  refine EKit.dup X9 hx rfl (hb hby at_52) (q := 53) rfl ?_
  refine EKit.bipush X9 hx (v := (8 : Int32)) rfl (hb hby at_53) (q := 55) rfl ?_
  refine EKit.ldc2Long X9 hx hZ hown (hw _ (List.mem_of_getElem? (i := 8) rfl)) (hb hby at_55) (q := 58) rfl ?_
  refine EKit.lastore X9 hx hZ e9 V9 (by decide) (by decide) (hb hby at_58) (q := 59) rfl ?_
  intro T10 h10 X10 e10 W10 V10
  have X10 := Stand.forget X10 (fun y hy => by cases List.mem_singleton.mp hy; rw [hs0]; exact gn_b1)
  have sz10 : h0.size ≤ h10.size := Nat.le_trans sz9 (Keep.of_wr W10).1
  have EX10 := EKit.Ext_wr EX9 W10 gn_b1
  refine EKit.dup X10 hx rfl (hb hby at_59) (q := 60) rfl ?_
  refine EKit.bipush X10 hx (v := (9 : Int32)) rfl (hb hby at_60) (q := 62) rfl ?_
  refine EKit.ldc2Long X10 hx hZ hown (hw _ (List.mem_of_getElem? (i := 9) rfl)) (hb hby at_62) (q := 65) rfl ?_
  refine EKit.lastore X10 hx hZ e10 V10 (by decide) (by decide) (hb hby at_65) (q := 66) rfl ?_
  intro T11 h11 X11 e11 W11 V11
  have X11 := Stand.forget X11 (fun y hy => by cases List.mem_singleton.mp hy; rw [hs0]; exact gn_b1)
  have sz11 : h0.size ≤ h11.size := Nat.le_trans sz10 (Keep.of_wr W11).1
  have EX11 := EKit.Ext_wr EX10 W11 gn_b1
  refine EKit.dup X11 hx rfl (hb hby at_66) (q := 67) rfl ?_
  refine EKit.bipush X11 hx (v := (10 : Int32)) rfl (hb hby at_67) (q := 69) rfl ?_
  refine EKit.ldc2Long X11 hx hZ hown (hw _ (List.mem_of_getElem? (i := 10) rfl)) (hb hby at_69) (q := 72) rfl ?_
  refine EKit.lastore X11 hx hZ e11 V11 (by decide) (by decide) (hb hby at_72) (q := 73) rfl ?_
  intro T12 h12 X12 e12 W12 V12
  have X12 := Stand.forget X12 (fun y hy => by cases List.mem_singleton.mp hy; rw [hs0]; exact gn_b1)
  have sz12 : h0.size ≤ h12.size := Nat.le_trans sz11 (Keep.of_wr W12).1
  have EX12 := EKit.Ext_wr EX11 W12 gn_b1
  refine EKit.dup X12 hx rfl (hb hby at_73) (q := 74) rfl ?_
  refine EKit.bipush X12 hx (v := (11 : Int32)) rfl (hb hby at_74) (q := 76) rfl ?_
  refine EKit.ldc2Long X12 hx hZ hown (hw _ (List.mem_of_getElem? (i := 11) rfl)) (hb hby at_76) (q := 79) rfl ?_
  refine EKit.lastore X12 hx hZ e12 V12 (by decide) (by decide) (hb hby at_79) (q := 80) rfl ?_
  intro T13 h13 X13 e13 W13 V13
  have X13 := Stand.forget X13 (fun y hy => by cases List.mem_singleton.mp hy; rw [hs0]; exact gn_b1)
  have sz13 : h0.size ≤ h13.size := Nat.le_trans sz12 (Keep.of_wr W13).1
  have EX13 := EKit.Ext_wr EX12 W13 gn_b1
  refine EKit.dup X13 hx rfl (hb hby at_80) (q := 81) rfl ?_
  refine EKit.bipush X13 hx (v := (12 : Int32)) rfl (hb hby at_81) (q := 83) rfl ?_
  refine EKit.ldc2Long X13 hx hZ hown (hw _ (List.mem_of_getElem? (i := 12) rfl)) (hb hby at_83) (q := 86) rfl ?_
  refine EKit.lastore X13 hx hZ e13 V13 (by decide) (by decide) (hb hby at_86) (q := 87) rfl ?_
  intro T14 h14 X14 e14 W14 V14
  have X14 := Stand.forget X14 (fun y hy => by cases List.mem_singleton.mp hy; rw [hs0]; exact gn_b1)
  have sz14 : h0.size ≤ h14.size := Nat.le_trans sz13 (Keep.of_wr W14).1
  have EX14 := EKit.Ext_wr EX13 W14 gn_b1
  refine EKit.dup X14 hx rfl (hb hby at_87) (q := 88) rfl ?_
  refine EKit.bipush X14 hx (v := (13 : Int32)) rfl (hb hby at_88) (q := 90) rfl ?_
  refine EKit.ldc2Long X14 hx hZ hown (hw _ (List.mem_of_getElem? (i := 13) rfl)) (hb hby at_90) (q := 93) rfl ?_
  refine EKit.lastore X14 hx hZ e14 V14 (by decide) (by decide) (hb hby at_93) (q := 94) rfl ?_
  intro T15 h15 X15 e15 W15 V15
  have X15 := Stand.forget X15 (fun y hy => by cases List.mem_singleton.mp hy; rw [hs0]; exact gn_b1)
  have sz15 : h0.size ≤ h15.size := Nat.le_trans sz14 (Keep.of_wr W15).1
  have EX15 := EKit.Ext_wr EX14 W15 gn_b1
  refine EKit.dup X15 hx rfl (hb hby at_94) (q := 95) rfl ?_
  refine EKit.bipush X15 hx (v := (14 : Int32)) rfl (hb hby at_95) (q := 97) rfl ?_
  refine EKit.ldc2Long X15 hx hZ hown (hw _ (List.mem_of_getElem? (i := 14) rfl)) (hb hby at_97) (q := 100) rfl ?_
  refine EKit.lastore X15 hx hZ e15 V15 (by decide) (by decide) (hb hby at_100) (q := 101) rfl ?_
  intro T16 h16 X16 e16 W16 V16
  have X16 := Stand.forget X16 (fun y hy => by cases List.mem_singleton.mp hy; rw [hs0]; exact gn_b1)
  have sz16 : h0.size ≤ h16.size := Nat.le_trans sz15 (Keep.of_wr W16).1
  have EX16 := EKit.Ext_wr EX15 W16 gn_b1
  refine EKit.dup X16 hx rfl (hb hby at_101) (q := 102) rfl ?_
  refine EKit.bipush X16 hx (v := (15 : Int32)) rfl (hb hby at_102) (q := 104) rfl ?_
  refine EKit.ldc2Long X16 hx hZ hown (hw _ (List.mem_of_getElem? (i := 15) rfl)) (hb hby at_104) (q := 107) rfl ?_
  refine EKit.lastore X16 hx hZ e16 V16 (by decide) (by decide) (hb hby at_107) (q := 108) rfl ?_
  intro T17 h17 X17 e17 W17 V17
  have X17 := Stand.forget X17 (fun y hy => by cases List.mem_singleton.mp hy; rw [hs0]; exact gn_b1)
  have sz17 : h0.size ≤ h17.size := Nat.le_trans sz16 (Keep.of_wr W17).1
  have EX17 := EKit.Ext_wr EX16 W17 gn_b1
  refine EKit.dup X17 hx rfl (hb hby at_108) (q := 109) rfl ?_
  refine EKit.bipush X17 hx (v := (16 : Int32)) rfl (hb hby at_109) (q := 111) rfl ?_
  refine EKit.ldc2Long X17 hx hZ hown (hw _ (List.mem_of_getElem? (i := 16) rfl)) (hb hby at_111) (q := 114) rfl ?_
  refine EKit.lastore X17 hx hZ e17 V17 (by decide) (by decide) (hb hby at_114) (q := 115) rfl ?_
  intro T18 h18 X18 e18 W18 V18
  have X18 := Stand.forget X18 (fun y hy => by cases List.mem_singleton.mp hy; rw [hs0]; exact gn_b1)
  have sz18 : h0.size ≤ h18.size := Nat.le_trans sz17 (Keep.of_wr W18).1
  have EX18 := EKit.Ext_wr EX17 W18 gn_b1
  refine EKit.dup X18 hx rfl (hb hby at_115) (q := 116) rfl ?_
  refine EKit.bipush X18 hx (v := (17 : Int32)) rfl (hb hby at_116) (q := 118) rfl ?_
  refine EKit.ldc2Long X18 hx hZ hown (hw _ (List.mem_of_getElem? (i := 17) rfl)) (hb hby at_118) (q := 121) rfl ?_
  refine EKit.lastore X18 hx hZ e18 V18 (by decide) (by decide) (hb hby at_121) (q := 122) rfl ?_
  intro T19 h19 X19 e19 W19 V19
  have X19 := Stand.forget X19 (fun y hy => by cases List.mem_singleton.mp hy; rw [hs0]; exact gn_b1)
  have sz19 : h0.size ≤ h19.size := Nat.le_trans sz18 (Keep.of_wr W19).1
  have EX19 := EKit.Ext_wr EX18 W19 gn_b1
  refine EKit.dup X19 hx rfl (hb hby at_122) (q := 123) rfl ?_
  refine EKit.bipush X19 hx (v := (18 : Int32)) rfl (hb hby at_123) (q := 125) rfl ?_
  refine EKit.ldc2Long X19 hx hZ hown (hw _ (List.mem_of_getElem? (i := 18) rfl)) (hb hby at_125) (q := 128) rfl ?_
  refine EKit.lastore X19 hx hZ e19 V19 (by decide) (by decide) (hb hby at_128) (q := 129) rfl ?_
  intro T20 h20 X20 e20 W20 V20
  have X20 := Stand.forget X20 (fun y hy => by cases List.mem_singleton.mp hy; rw [hs0]; exact gn_b1)
  have sz20 : h0.size ≤ h20.size := Nat.le_trans sz19 (Keep.of_wr W20).1
  have EX20 := EKit.Ext_wr EX19 W20 gn_b1
  refine EKit.astoreN X20 hx rfl (l' := #[.val (.long q0), .second, .val (.int p1), .val (.ref b1), .unset, .unset, .unset, .unset, .unset]) rfl (hb hby at_129) (q := 130) rfl ?_
  refine EKit.lloadN X20 hx rfl (hb hby at_130) (q := 131) rfl ?_
  refine EKit.ldc2Long X20 hx hZ hown (hw _ (List.mem_of_getElem? (i := 19) rfl)) (hb hby at_131) (q := 134) rfl ?_
  refine EKit.land X20 hx  (hb hby at_134) (q := 135) rfl ?_
  refine EKit.iloadN X20 hx rfl (hb hby at_135) (q := 136) rfl ?_
  refine EKit.bipush X20 hx (v := (63 : Int32)) rfl (hb hby at_136) (q := 138) rfl ?_
  refine EKit.iand X20 hx  (hb hby at_138) (q := 139) rfl ?_
  refine EKit.lushr X20 hx  (hb hby at_139) (q := 140) rfl ?_
  refine EKit.lstore X20 hx (l' := #[.val (.long q0), .second, .val (.int p1), .val (.ref b1), .val (.long (((q0 &&& (9223372036854775807 : Int64)).toUInt64 >>> ((p1 &&& (63 : Int32)) &&& 0x3f).toInt64.toUInt64).toInt64)), .second, .unset, .unset, .unset]) rfl (hb hby at_140) (q := 142) rfl ?_
  refine EKit.lload X20 hx rfl (hb hby at_142) (q := 144) rfl ?_
  refine EKit.callS X20 hx hZ hown e20 (y := (⟨"com/example/mirrorgauge/mirrorgauge/message/Decimal", "length", "(J)I"⟩ : MethodName)) (hw _ (List.mem_of_getElem? (i := 20) rfl)) (hw _ (List.mem_of_getElem? (i := 21) rfl)) (hw _ (List.mem_of_getElem? (i := 22) rfl)) (hw _ (List.mem_of_getElem? (i := 23) rfl)) (by decide) (argsL := [(.long (((q0 &&& (9223372036854775807 : Int64)).toUInt64 >>> ((p1 &&& (63 : Int32)) &&& 0x3f).toInt64.toUInt64).toInt64))]) (rm1 l Z a0 hw [] (((q0 &&& (9223372036854775807 : Int64)).toUInt64 >>> ((p1 &&& (63 : Int32)) &&& 0x3f).toInt64.toUInt64).toInt64) h20 w_P kk (S_P.ext EX20) (A_P.ext EX20)) (rest := []) (by rw [hml]; rfl) pd__J_I rfl (W := 0) (Nat.le_of_eq rfl) (by decide) (by decide) (by decide) (by decide) rfl (hb hby at_144) (q := 147) rfl ?_
  intro T21 v21 L21 X21 hQ21
  obtain ⟨X21, e21, ev21⟩ := EKit.pureK X21 hQ21
  subst ev21
  show EKit.Ends p l e room_1 s m #[(.long q0), (.int p1)] below meth c room_1.cells room_1.slots (fun v h L => v = some (.int (1 : Int32)) ∧ Fr h0.size L) T21 (mkF m 147 #[.val (.long q0), .second, .val (.int p1), .val (.ref b1), .val (.long (((q0 &&& (9223372036854775807 : Int64)).toUInt64 >>> ((p1 &&& (63 : Int32)) &&& 0x3f).toInt64.toUInt64).toInt64)), .second, .unset, .unset, .unset] [(.int (own_len (((q0 &&& (9223372036854775807 : Int64)).toUInt64 >>> ((p1 &&& (63 : Int32)) &&& 0x3f).toInt64.toUInt64).toInt64)))])
  refine EKit.istore X21 hx (l' := #[.val (.long q0), .second, .val (.int p1), .val (.ref b1), .val (.long (((q0 &&& (9223372036854775807 : Int64)).toUInt64 >>> ((p1 &&& (63 : Int32)) &&& 0x3f).toInt64.toUInt64).toInt64)), .second, .val (.int (own_len (((q0 &&& (9223372036854775807 : Int64)).toUInt64 >>> ((p1 &&& (63 : Int32)) &&& 0x3f).toInt64.toUInt64).toInt64))), .unset, .unset]) rfl (hb hby at_147) (q := 149) rfl ?_
  refine EKit.iload X21 hx rfl (hb hby at_149) (q := 151) rfl ?_
  refine EKit.iconst X21 hx (v := (1 : Int32)) rfl (hb hby at_151) (q := 152) rfl ?_
  have h152 : ¬ ((own_len (((q0 &&& (9223372036854775807 : Int64)).toUInt64 >>> ((p1 &&& (63 : Int32)) &&& 0x3f).toInt64.toUInt64).toInt64)) < (1 : Int32)) := (own_1 (((q0 &&& (9223372036854775807 : Int64)).toUInt64 >>> ((p1 &&& (63 : Int32)) &&& 0x3f).toInt64.toUInt64).toInt64)).1
  refine EKit.icmpNo X21 hx ((flt h152).1) (hb hby at_152) (q := 155) rfl ?_
  refine EKit.iload X21 hx rfl (hb hby at_155) (q := 157) rfl ?_
  refine EKit.bipush X21 hx (v := (19 : Int32)) rfl (hb hby at_157) (q := 159) rfl ?_
  have h159 : ¬ ((19 : Int32) < (own_len (((q0 &&& (9223372036854775807 : Int64)).toUInt64 >>> ((p1 &&& (63 : Int32)) &&& 0x3f).toInt64.toUInt64).toInt64))) := (own_1 (((q0 &&& (9223372036854775807 : Int64)).toUInt64 >>> ((p1 &&& (63 : Int32)) &&& 0x3f).toInt64.toUInt64).toInt64)).2
  refine EKit.icmpYes X21 hx ((flt h159).2.2.2) (hb hby at_159) (by decide) (q := 164) (by decide) ?_
  refine EKit.iload X21 hx rfl (hb hby at_164) (q := 166) rfl ?_
  refine EKit.iconst X21 hx (v := (1 : Int32)) rfl (hb hby at_166) (q := 167) rfl ?_
  have J187_22 : ∀ (TJ22 : State) (XJ22 : Stand p l e room_1 s m #[(.long q0), (.int p1)] below meth c TJ22 [] 1 19) (eJ22 : TJ22.heap = h20) (v7 : Int32) (hj187 : v7 = 1), EKit.Ends p l e room_1 s m #[(.long q0), (.int p1)] below meth c room_1.cells room_1.slots (fun v h L => v = some (.int (1 : Int32)) ∧ Fr h0.size L) TJ22 (mkF m 187 #[.val (.long q0), .second, .val (.int p1), .val (.ref b1), .val (.long (((q0 &&& (9223372036854775807 : Int64)).toUInt64 >>> ((p1 &&& (63 : Int32)) &&& 0x3f).toInt64.toUInt64).toInt64)), .second, .val (.int (own_len (((q0 &&& (9223372036854775807 : Int64)).toUInt64 >>> ((p1 &&& (63 : Int32)) &&& 0x3f).toInt64.toUInt64).toInt64))), .unset, .unset] [(.int v7)]) := by
    intro TJ22 XJ22 eJ22 v7 hj187
    refine EKit.istore XJ22 hx (l' := #[.val (.long q0), .second, .val (.int p1), .val (.ref b1), .val (.long (((q0 &&& (9223372036854775807 : Int64)).toUInt64 >>> ((p1 &&& (63 : Int32)) &&& 0x3f).toInt64.toUInt64).toInt64)), .second, .val (.int (own_len (((q0 &&& (9223372036854775807 : Int64)).toUInt64 >>> ((p1 &&& (63 : Int32)) &&& 0x3f).toInt64.toUInt64).toInt64))), .val (.int v7), .unset]) rfl (hb hby at_187) (q := 189) rfl ?_
    refine EKit.iload XJ22 hx rfl (hb hby at_189) (q := 191) rfl ?_
    refine EKit.bipush XJ22 hx (v := (19 : Int32)) rfl (hb hby at_191) (q := 193) rfl ?_
    have J211_23 : ∀ (TJ23 : State) (XJ23 : Stand p l e room_1 s m #[(.long q0), (.int p1)] below meth c TJ23 [] 1 19) (eJ23 : TJ23.heap = h20) (v8 : Int32) (hj211 : v8 = 1), EKit.Ends p l e room_1 s m #[(.long q0), (.int p1)] below meth c room_1.cells room_1.slots (fun v h L => v = some (.int (1 : Int32)) ∧ Fr h0.size L) TJ23 (mkF m 211 #[.val (.long q0), .second, .val (.int p1), .val (.ref b1), .val (.long (((q0 &&& (9223372036854775807 : Int64)).toUInt64 >>> ((p1 &&& (63 : Int32)) &&& 0x3f).toInt64.toUInt64).toInt64)), .second, .val (.int (own_len (((q0 &&& (9223372036854775807 : Int64)).toUInt64 >>> ((p1 &&& (63 : Int32)) &&& 0x3f).toInt64.toUInt64).toInt64))), .val (.int v7), .unset] [(.int v8)]) := by
      intro TJ23 XJ23 eJ23 v8 hj211
      refine EKit.istore XJ23 hx (l' := #[.val (.long q0), .second, .val (.int p1), .val (.ref b1), .val (.long (((q0 &&& (9223372036854775807 : Int64)).toUInt64 >>> ((p1 &&& (63 : Int32)) &&& 0x3f).toInt64.toUInt64).toInt64)), .second, .val (.int (own_len (((q0 &&& (9223372036854775807 : Int64)).toUInt64 >>> ((p1 &&& (63 : Int32)) &&& 0x3f).toInt64.toUInt64).toInt64))), .val (.int v7), .val (.int v8)]) rfl (hb hby at_211) (q := 213) rfl ?_
      refine EKit.iload XJ23 hx rfl (hb hby at_213) (q := 215) rfl ?_
      have h215 : ¬ (v7 = (0 : Int32)) := by rw [hj187]; decide
      refine EKit.ifNo XJ23 hx (EKit.c_t (feq h215).1) (hb hby at_215) (q := 218) rfl ?_
      refine EKit.iload XJ23 hx rfl (hb hby at_218) (q := 220) rfl ?_
      have h220 : ¬ (v8 = (0 : Int32)) := by rw [hj211]; decide
      refine EKit.ifNo XJ23 hx (EKit.c_t (feq h220).1) (hb hby at_220) (q := 223) rfl ?_
      refine EKit.iconst XJ23 hx (v := (1 : Int32)) rfl (hb hby at_223) (q := 224) rfl ?_
      refine EKit.goto XJ23 hx (hb hby at_224) (by decide) (q := 228) (by decide) ?_
      exact EKit.retZ XJ23 hx hret (by simp) (hb hby at_228) (⟨rfl, Fr.nil _⟩) (by decide) (by decide)
    by_cases h193 : (own_len (((q0 &&& (9223372036854775807 : Int64)).toUInt64 >>> ((p1 &&& (63 : Int32)) &&& 0x3f).toInt64.toUInt64).toInt64)) = (19 : Int32)
    · skip
      refine EKit.icmpYes XJ22 hx ((teq h193).1) (hb hby at_193) (by decide) (q := 206) (by decide) ?_
      refine EKit.iconst XJ22 hx (v := (1 : Int32)) rfl (hb hby at_206) (q := 207) rfl ?_
      refine EKit.goto XJ22 hx (hb hby at_207) (by decide) (q := 211) (by decide) ?_
      exact J211_23 TJ22 XJ22 eJ22 (1 : Int32) rfl
    · skip
      refine EKit.icmpNo XJ22 hx ((feq h193).1) (hb hby at_193) (q := 196) rfl ?_
      refine EKit.lload XJ22 hx rfl (hb hby at_196) (q := 198) rfl ?_
      refine EKit.aloadN XJ22 hx rfl rfl (hb hby at_198) (q := 199) rfl ?_
      refine EKit.iload XJ22 hx rfl (hb hby at_199) (q := 201) rfl ?_
      refine EKit.laload XJ22 hx hZ eJ22 V20 (own_3 (((q0 &&& (9223372036854775807 : Int64)).toUInt64 >>> ((p1 &&& (63 : Int32)) &&& 0x3f).toInt64.toUInt64).toInt64) h193).1.1 (own_3 (((q0 &&& (9223372036854775807 : Int64)).toUInt64 >>> ((p1 &&& (63 : Int32)) &&& 0x3f).toInt64.toUInt64).toInt64) h193).1.2 (v := (.long (own_pow (own_len (((q0 &&& (9223372036854775807 : Int64)).toUInt64 >>> ((p1 &&& (63 : Int32)) &&& 0x3f).toInt64.toUInt64).toInt64))))) (own_pat _ (own_3 (((q0 &&& (9223372036854775807 : Int64)).toUInt64 >>> ((p1 &&& (63 : Int32)) &&& 0x3f).toInt64.toUInt64).toInt64) h193).2.1) (hb hby at_201) (q := 202) rfl ?_
      refine EKit.lcmp XJ22 hx  (hb hby at_202) (q := 203) rfl ?_
      have h203 : (((q0 &&& (9223372036854775807 : Int64)).toUInt64 >>> ((p1 &&& (63 : Int32)) &&& 0x3f).toInt64.toUInt64).toInt64) < (own_pow (own_len (((q0 &&& (9223372036854775807 : Int64)).toUInt64 >>> ((p1 &&& (63 : Int32)) &&& 0x3f).toInt64.toUInt64).toInt64))) := (own_3 (((q0 &&& (9223372036854775807 : Int64)).toUInt64 >>> ((p1 &&& (63 : Int32)) &&& 0x3f).toInt64.toUInt64).toInt64) h193).2.2
      refine EKit.ifNo XJ22 hx (EKit.c_t (tlt (EKit.l_t h203)).2.1) (hb hby at_203) (q := 206) rfl ?_
      refine EKit.iconst XJ22 hx (v := (1 : Int32)) rfl (hb hby at_206) (q := 207) rfl ?_
      refine EKit.goto XJ22 hx (hb hby at_207) (by decide) (q := 211) (by decide) ?_
      exact J211_23 TJ22 XJ22 eJ22 (1 : Int32) rfl
  by_cases h167 : (own_len (((q0 &&& (9223372036854775807 : Int64)).toUInt64 >>> ((p1 &&& (63 : Int32)) &&& 0x3f).toInt64.toUInt64).toInt64)) = (1 : Int32)
  · skip
    refine EKit.icmpYes X21 hx ((teq h167).1) (hb hby at_167) (by decide) (q := 182) (by decide) ?_
    refine EKit.iconst X21 hx (v := (1 : Int32)) rfl (hb hby at_182) (q := 183) rfl ?_
    refine EKit.goto X21 hx (hb hby at_183) (by decide) (q := 187) (by decide) ?_
    exact J187_22 T21 X21 e21 (1 : Int32) rfl
  · skip
    refine EKit.icmpNo X21 hx ((feq h167).1) (hb hby at_167) (q := 170) rfl ?_
    refine EKit.lload X21 hx rfl (hb hby at_170) (q := 172) rfl ?_
    refine EKit.aloadN X21 hx rfl rfl (hb hby at_172) (q := 173) rfl ?_
    refine EKit.iload X21 hx rfl (hb hby at_173) (q := 175) rfl ?_
    refine EKit.iconst X21 hx (v := (1 : Int32)) rfl (hb hby at_175) (q := 176) rfl ?_
    refine EKit.isub X21 hx  (hb hby at_176) (q := 177) rfl ?_
    refine EKit.laload X21 hx hZ e21 V20 (own_2 (((q0 &&& (9223372036854775807 : Int64)).toUInt64 >>> ((p1 &&& (63 : Int32)) &&& 0x3f).toInt64.toUInt64).toInt64) h167).1.1 (own_2 (((q0 &&& (9223372036854775807 : Int64)).toUInt64 >>> ((p1 &&& (63 : Int32)) &&& 0x3f).toInt64.toUInt64).toInt64) h167).1.2 (v := (.long (own_pow ((own_len (((q0 &&& (9223372036854775807 : Int64)).toUInt64 >>> ((p1 &&& (63 : Int32)) &&& 0x3f).toInt64.toUInt64).toInt64)) - (1 : Int32))))) (own_pat _ (own_2 (((q0 &&& (9223372036854775807 : Int64)).toUInt64 >>> ((p1 &&& (63 : Int32)) &&& 0x3f).toInt64.toUInt64).toInt64) h167).2.1) (hb hby at_177) (q := 178) rfl ?_
    refine EKit.lcmp X21 hx  (hb hby at_178) (q := 179) rfl ?_
    have h179 : ¬ ((((q0 &&& (9223372036854775807 : Int64)).toUInt64 >>> ((p1 &&& (63 : Int32)) &&& 0x3f).toInt64.toUInt64).toInt64) < (own_pow ((own_len (((q0 &&& (9223372036854775807 : Int64)).toUInt64 >>> ((p1 &&& (63 : Int32)) &&& 0x3f).toInt64.toUInt64).toInt64)) - (1 : Int32)))) := (own_2 (((q0 &&& (9223372036854775807 : Int64)).toUInt64 >>> ((p1 &&& (63 : Int32)) &&& 0x3f).toInt64.toUInt64).toInt64) h167).2.2
    refine EKit.ifNo X21 hx (EKit.c_t (flt (EKit.l_f h179)).1) (hb hby at_179) (q := 182) rfl ?_
    refine EKit.iconst X21 hx (v := (1 : Int32)) rfl (hb hby at_182) (q := 183) rfl ?_
    refine EKit.goto X21 hx (hb hby at_183) (by decide) (q := 187) (by decide) ?_
    exact J187_22 T21 X21 e21 (1 : Int32) rfl
set_option maxRecDepth 65536 in
set_option maxHeartbeats 40000000 in
theorem comes_1 {Post : Tables → Env → Array Value → State → Outcome → State → Prop} (hpost : ∀ tb e args s v u, (limb_1_1.after args s (.returned v) u = true ∧ limb_1_2.after args s (.returned v) u = true ∧ True) → FrameEnd s (.returned v) u (Jvm.fieldLocs frame_1_writes args s ++ Jvm.arrayLocs frame_1_arrays args s ++ Jvm.staticLocs frame_1_statics s) 16 128 → Post tb e args s (.returned v) u) :
    ArmFor flags0 classFile x code maxLocals ret World_1 tables_1 room_1 Calls_1 rest_1 Pre_1 Post := by
  intro l hfl _ _ p e ha hc hk s m args below hf hA hF happ hP
  obtain ⟨hcalls, hrest, hpre⟩ := hP
  obtain ⟨-, -, -, hnamed, -, -, -, hat⟩ := (Spec.applies_iff hf).mp happ
  obtain ⟨hg, hn⟩ := and_e (Cond.before_iff.mp (show (Jvm.Cond.and given_1 narrow_1).before args s = true from hpre))
  obtain ⟨g4, g5⟩ := and_e hg
  obtain ⟨g6, g7⟩ := and_e g5
  obtain ⟨w0, w1, rfl⟩ : ∃ w0 w1 : Value, args = #[w0, w1] := by
    have hs : args.size = 2 := by simpa [Cond.value, given_1] using g4
    obtain ⟨L⟩ := args
    match L, hs with
    | [w0, w1], _ => exact ⟨w0, w1, rfl⟩
  have hw := fun d (hd : d ∈ tables_1) => atoms_spec (ws := Jvm.Cond.code x code maxLocals ret :: tables_1) hat d (List.mem_cons_of_mem _ hd)
  obtain ⟨i0, ei0⟩ := isL_v g6
  obtain rfl : w0 = (.long i0) := Option.some.inj ei0
  obtain ⟨i1, ei1⟩ := is_v g7
  obtain rfl : w1 = (.int i1) := Option.some.inj ei1
  obtain ⟨n1, n2⟩ := and_e hn
  obtain ⟨n3, n4⟩ := and_e n2
  obtain ⟨n5, n6⟩ := and_e n4
  obtain ⟨n7, n8⟩ := and_e n6
  obtain ⟨n9, n10⟩ := and_e n8
  obtain ⟨n11, n12⟩ := and_e n10
  obtain ⟨n13, n14⟩ := and_e n12
  obtain ⟨n15, n16⟩ := and_e n14
  obtain ⟨n17, n18⟩ := and_e n16
  obtain ⟨n19, n20⟩ := and_e n18
  obtain ⟨n21, n22⟩ := and_e n20
  obtain ⟨n23, n24⟩ := and_e n22
  obtain ⟨n25, n26⟩ := and_e n24
  obtain ⟨n27, n28⟩ := and_e n26
  obtain ⟨n29, n30⟩ := and_e n28
  obtain ⟨n31, n32⟩ := and_e n30
  obtain ⟨n33, n34⟩ := and_e n32
  obtain ⟨n35, n36⟩ := and_e n34
  obtain ⟨n37, n38⟩ := and_e n36
  obtain ⟨n39, n40⟩ := and_e n38
  obtain ⟨w_P, ev_P⟩ := arr_v n1
  obtain ⟨cl, A0⟩ := Arr.start ev_P n1
  have S_P : Sta s s.heap "com/example/mirrorgauge/mirrorgauge/message/Decimal" "POWERS" "[J" (.ref w_P) := Sta.start ev_P (Or.inr ⟨(hw _ (List.mem_of_getElem? (i := 22) rfl)), (hw _ (List.mem_of_getElem? (i := 25) rfl))⟩)
  obtain ⟨r2, r3⟩ := EKit.evalLen (EKit.evalEq n3 (Term.int_eval _)) ev_P A0
  have q0 : cl.slots[0]? = some (.long (own_pow 0)) := (elem_in (EKit.evalEq n5 (long_at _)) ev_P (Term.int_eval _) A0.1).2.trans (congrArg (fun z => some (Value.long z)) own_pow0.symm)
  have q1 : cl.slots[1]? = some (.long (own_pow 1)) := (elem_in (EKit.evalEq n7 (long_at _)) ev_P (Term.int_eval _) A0.1).2.trans (congrArg (fun z => some (Value.long z)) own_pow1.symm)
  have q2 : cl.slots[2]? = some (.long (own_pow 2)) := (elem_in (EKit.evalEq n9 (long_at _)) ev_P (Term.int_eval _) A0.1).2.trans (congrArg (fun z => some (Value.long z)) own_pow2.symm)
  have q3 : cl.slots[3]? = some (.long (own_pow 3)) := (elem_in (EKit.evalEq n11 (long_at _)) ev_P (Term.int_eval _) A0.1).2.trans (congrArg (fun z => some (Value.long z)) own_pow3.symm)
  have q4 : cl.slots[4]? = some (.long (own_pow 4)) := (elem_in (EKit.evalEq n13 (long_at _)) ev_P (Term.int_eval _) A0.1).2.trans (congrArg (fun z => some (Value.long z)) own_pow4.symm)
  have q5 : cl.slots[5]? = some (.long (own_pow 5)) := (elem_in (EKit.evalEq n15 (long_at _)) ev_P (Term.int_eval _) A0.1).2.trans (congrArg (fun z => some (Value.long z)) own_pow5.symm)
  have q6 : cl.slots[6]? = some (.long (own_pow 6)) := (elem_in (EKit.evalEq n17 (long_at _)) ev_P (Term.int_eval _) A0.1).2.trans (congrArg (fun z => some (Value.long z)) own_pow6.symm)
  have q7 : cl.slots[7]? = some (.long (own_pow 7)) := (elem_in (EKit.evalEq n19 (long_at _)) ev_P (Term.int_eval _) A0.1).2.trans (congrArg (fun z => some (Value.long z)) own_pow7.symm)
  have q8 : cl.slots[8]? = some (.long (own_pow 8)) := (elem_in (EKit.evalEq n21 (long_at _)) ev_P (Term.int_eval _) A0.1).2.trans (congrArg (fun z => some (Value.long z)) own_pow8.symm)
  have q9 : cl.slots[9]? = some (.long (own_pow 9)) := (elem_in (EKit.evalEq n23 (long_at _)) ev_P (Term.int_eval _) A0.1).2.trans (congrArg (fun z => some (Value.long z)) own_pow9.symm)
  have q10 : cl.slots[10]? = some (.long (own_pow 10)) := (elem_in (EKit.evalEq n25 (long_at _)) ev_P (Term.int_eval _) A0.1).2.trans (congrArg (fun z => some (Value.long z)) own_pow10.symm)
  have q11 : cl.slots[11]? = some (.long (own_pow 11)) := (elem_in (EKit.evalEq n27 (long_at _)) ev_P (Term.int_eval _) A0.1).2.trans (congrArg (fun z => some (Value.long z)) own_pow11.symm)
  have q12 : cl.slots[12]? = some (.long (own_pow 12)) := (elem_in (EKit.evalEq n29 (long_at _)) ev_P (Term.int_eval _) A0.1).2.trans (congrArg (fun z => some (Value.long z)) own_pow12.symm)
  have q13 : cl.slots[13]? = some (.long (own_pow 13)) := (elem_in (EKit.evalEq n31 (long_at _)) ev_P (Term.int_eval _) A0.1).2.trans (congrArg (fun z => some (Value.long z)) own_pow13.symm)
  have q14 : cl.slots[14]? = some (.long (own_pow 14)) := (elem_in (EKit.evalEq n33 (long_at _)) ev_P (Term.int_eval _) A0.1).2.trans (congrArg (fun z => some (Value.long z)) own_pow14.symm)
  have q15 : cl.slots[15]? = some (.long (own_pow 15)) := (elem_in (EKit.evalEq n35 (long_at _)) ev_P (Term.int_eval _) A0.1).2.trans (congrArg (fun z => some (Value.long z)) own_pow15.symm)
  have q16 : cl.slots[16]? = some (.long (own_pow 16)) := (elem_in (EKit.evalEq n37 (long_at _)) ev_P (Term.int_eval _) A0.1).2.trans (congrArg (fun z => some (Value.long z)) own_pow16.symm)
  have q17 : cl.slots[17]? = some (.long (own_pow 17)) := (elem_in (EKit.evalEq n39 (long_at _)) ev_P (Term.int_eval _) A0.1).2.trans (congrArg (fun z => some (Value.long z)) own_pow17.symm)
  have q18 : cl.slots[18]? = some (.long (own_pow 18)) := (elem_in (EKit.evalEq n40 (long_at _)) ev_P (Term.int_eval _) A0.1).2.trans (congrArg (fun z => some (Value.long z)) own_pow18.symm)
  have A_P : Ary s s.heap w_P cl.cls .long (19 : Int32) (fun j => .long (own_pow j)) := by
    refine Ary.start A0 r2 r3 fun i hi => ?_
    match i, hi with
    | 0, _ => exact q0
    | 1, _ => exact q1
    | 2, _ => exact q2
    | 3, _ => exact q3
    | 4, _ => exact q4
    | 5, _ => exact q5
    | 6, _ => exact q6
    | 7, _ => exact q7
    | 8, _ => exact q8
    | 9, _ => exact q9
    | 10, _ => exact q10
    | 11, _ => exact q11
    | 12, _ => exact q12
    | 13, _ => exact q13
    | 14, _ => exact q14
    | 15, _ => exact q15
    | 16, _ => exact q16
    | 17, _ => exact q17
    | 18, _ => exact q18
    | i + 19, hi => exact absurd hi (by simp [show (19 : Int32).toNatClampNeg = 19 from rfl])
  obtain ⟨n, o, h1, h2, h3, _, L, rfl, ⟨rfl, N⟩, hq⟩ := rm0 l s _ hw tables_1 i0 i1 s.heap w_P cl.cls S_P A_P p e ha hc hk s m _ below hf ((Spec.applies_iff_loose hf).mp happ).1 ⟨rfl, State.Warmed39.refl s, rfl⟩ trivial
  refine ⟨n, _, h1, h2, h3, hpost _ _ _ _ _ _ ⟨Cond.after_iff.mpr rfl, Cond.after_iff.mpr (eq_i res_at (Term.int_eval (1)) rfl), trivial⟩ ⟨hq.1, hq.2.1, (hq.2.2.sift fun y hy => Or.inr (N y hy)).mono (by decide) (by decide)⟩⟩
theorem main_1_1 : Claimed_1_1 := comes_1 fun _ _ _ _ _ _ h hF => ⟨h.1, hF⟩
theorem main_1_2 : Claimed_1_2 := comes_1 fun _ _ _ _ _ _ h hF => ⟨h.2.1, hF⟩
end Jvm.Pilot.@@N@@
namespace Jvm.Pilot.@@N@@
open Jvm Jvm.ClassFile Sem Op Lib Jvm.Free Jvm.Stand Jvm.Pilot.@@N@@.Jvm.D
/-! MADE BY PROGRAM (witnessworld.py) out of the Statement's table words and the real class files: 11 classes; the members and pool entries that the words name. The judged class is class 1, her method 1. -/
namespace start1
open Jvm.ClassFile
def u (s : String) : CpInfo := .utf8 (stringToUtf16 s)
/-- a pool by its gaps: so many unusable entries, then the entry; so many at the end -/
def gap : Nat → List CpInfo → List CpInfo
  | 0, r => r
  | n + 1, r => .unusable :: gap n r
def poolList (es : List (Nat × CpInfo)) (last : Nat) : List CpInfo := es.foldr (fun e r => gap e.1 (e.2 :: r)) (gap last [])
def pool (es : List (Nat × CpInfo)) (last : Nat) : Array CpInfo := ⟨poolList es last⟩
def fileOf (pool : Array CpInfo) (this : Nat) (attrs : Array Attribute := #[]) (ms : Array MethodInfo := #[]) (fl : Nat := 33) (sup : Nat := 0) (ifs : Array Nat := #[]) (fds : Array FieldInfo := #[]) : ClassFile where
  minorVersion := 0
  majorVersion := 65
  constantPool := pool
  accessFlags := fl
  thisClass := this
  superClass := sup
  interfaces := ifs
  fields := fds
  methods := ms
  attributes := attrs
def plain (name : String) (sup : Option ClassId) : Class where
  name := name
  kind := .ordinary
  loader := none
  accessFlags := 33
  super := sup
  interfaces := #[]
  cf := none
  fields := #[]
  methods := #[]
  instanceTypes := #[]
  staticTypes := #[]
  resolved := #[]
  callSites := []
  init := .initialized
  statics := none
  mirror := none

def pool0 : Array CpInfo := pool [(5, u "<init>"), (0, u "()V"), (1, .class_ 10), (1, u "java/lang/Object")] 113

def k0m0 : Method := { name := "<init>", desc := "()V", sig := { parameters := [], returnType := none }, accessFlags := 1, code := none }
/-- java/lang/Object -/
def k0 : Class := { plain "java/lang/Object" none with
  accessFlags := 33
  interfaces := #[]
  cf := some (fileOf pool0 8 #[] #[{ accessFlags := 1, nameIndex := 5, descriptorIndex := 6, attributes := #[] }] 33 0 #[] #[])
  fields := #[]
  methods := #[k0m0]
  instanceTypes := #[]
  staticTypes := #[]
  resolved := Array.replicate 124 none
  statics := none }

def pool1 : Array CpInfo := pool [(2, .class_ 4), (1, u "java/lang/Object"), (0, u "<init>"), (0, u "()V"), (0, .long 10), (1, .long 100), (1, .long 1000), (1, .long 10000), (1, .long 100000), (1, .long 1000000), (1, .long 10000000), (1, .long 100000000), (1, .long 1000000000), (1, .long 10000000000), (1, .long 100000000000), (1, .long 1000000000000), (1, .long 10000000000000), (1, .long 100000000000000), (1, .long 1000000000000000), (1, .long 10000000000000000), (1, .long 100000000000000000), (1, .long 1000000000000000000), (3, .long 9223372036854775807), (1, .methodref 48 49), (0, .class_ 50), (0, .nameAndType 51 52), (0, u "com/example/mirrorgauge/mirrorgauge/message/Decimal"), (0, u "length"), (0, u "(J)I"), (0, .class_ 54), (0, u "com/example/mirrorgauge/mirrorgauge/message/DecimalLengthPinLaw"), (2, u "law"), (0, u "(JI)Z")] 5

def k1m0 : Method := { name := "<init>", desc := "()V", sig := { parameters := [], returnType := none }, accessFlags := 2, code := none }
def k1c1 : Code := { maxStack := 5, maxLocals := 9, code := code, exceptionTable := #[], attributes := #[] }
def k1m1 : Method := { name := "law", desc := "(JI)Z", sig := { parameters := [.long, .int], returnType := some .boolean }, accessFlags := 9, code := some k1c1 }
/-- com/example/mirrorgauge/mirrorgauge/message/DecimalLengthPinLaw -/
def k1 : Class := { plain "com/example/mirrorgauge/mirrorgauge/message/DecimalLengthPinLaw" (some 0) with
  accessFlags := 49
  interfaces := #[]
  cf := some (fileOf pool1 53 #[] #[{ accessFlags := 2, nameIndex := 5, descriptorIndex := 6, attributes := #[] }, { accessFlags := 9, nameIndex := 57, descriptorIndex := 58, attributes := #[] }] 49 2 #[] #[])
  fields := #[]
  methods := #[k1m0, k1m1]
  instanceTypes := #[]
  staticTypes := #[]
  resolved := Array.replicate 64 none
  statics := none }

def pool2 : Array CpInfo := pool [(4, .class_ 6), (1, u "java/lang/Object"), (0, u "<init>"), (0, u "()V"), (0, .fieldref 10 11), (0, .class_ 12), (0, .nameAndType 13 14), (0, u "com/example/mirrorgauge/mirrorgauge/message/Decimal"), (0, u "POWERS"), (0, u "[J"), (2, u "length"), (0, u "(J)I"), (18, u "LARGEST_BEFORE_A_DIGIT"), (0, u "J"), (1, u "LARGEST_LAST_DIGIT"), (0, u "UNCHECKED_DIGITS"), (0, u "I")] 12

def k2m0 : Method := { name := "<init>", desc := "()V", sig := { parameters := [], returnType := none }, accessFlags := 2, code := none }
def k2c1 : Code := { maxStack := 4, maxLocals := 3, code := prog_49_method_2_code, exceptionTable := #[], attributes := #[] }
def k2m1 : Method := { name := "length", desc := "(J)I", sig := { parameters := [.long], returnType := some .int }, accessFlags := 9, code := some k2c1 }
/-- com/example/mirrorgauge/mirrorgauge/message/Decimal -/
def k2 : Class := { plain "com/example/mirrorgauge/mirrorgauge/message/Decimal" (some 0) with
  accessFlags := 49
  interfaces := #[]
  cf := some (fileOf pool2 10 #[] #[{ accessFlags := 2, nameIndex := 7, descriptorIndex := 8, attributes := #[] }, { accessFlags := 9, nameIndex := 17, descriptorIndex := 18, attributes := #[] }] 49 4 #[] #[{ accessFlags := 26, nameIndex := 13, descriptorIndex := 14, attributes := #[] }, { accessFlags := 26, nameIndex := 37, descriptorIndex := 38, attributes := #[] }, { accessFlags := 26, nameIndex := 40, descriptorIndex := 38, attributes := #[] }, { accessFlags := 26, nameIndex := 41, descriptorIndex := 42, attributes := #[] }])
  fields := #[{ name := "POWERS", type := (.array .long), accessFlags := 26, slot := 0, constantValue := 0 }, { name := "LARGEST_BEFORE_A_DIGIT", type := .long, accessFlags := 26, slot := 1, constantValue := 0 }, { name := "LARGEST_LAST_DIGIT", type := .long, accessFlags := 26, slot := 2, constantValue := 0 }, { name := "UNCHECKED_DIGITS", type := .int, accessFlags := 26, slot := 3, constantValue := 0 }]
  methods := #[k2m0, k2m1]
  instanceTypes := #[]
  staticTypes := #[(.array .long), .long, .long, .int]
  resolved := Array.replicate 55 none
  statics := some 0 }

def pool3 : Array CpInfo := pool [(1, u "java/lang/Cloneable"), (0, .class_ 1), (0, u "java/lang/Object"), (0, .class_ 3)] 3

/-- java/lang/Cloneable -/
def k3 : Class := { plain "java/lang/Cloneable" (some 0) with
  accessFlags := 1537
  interfaces := #[]
  cf := some (fileOf pool3 2 #[] #[] 1537 4 #[] #[])
  fields := #[]
  methods := #[]
  instanceTypes := #[]
  staticTypes := #[]
  resolved := Array.replicate 8 none
  statics := none }

def pool4 : Array CpInfo := pool [(1, u "java/io/Serializable"), (0, .class_ 1), (0, u "java/lang/Object"), (0, .class_ 3)] 3

/-- java/io/Serializable -/
def k4 : Class := { plain "java/io/Serializable" (some 0) with
  accessFlags := 1537
  interfaces := #[]
  cf := some (fileOf pool4 2 #[] #[] 1537 4 #[] #[])
  fields := #[]
  methods := #[]
  instanceTypes := #[]
  staticTypes := #[]
  resolved := Array.replicate 8 none
  statics := none }

/-- the primitive byte -/
def k5 : Class := { plain "byte" none with kind := .primitive 'B', accessFlags := 0x411 }
/-- [B -/
def k6 : Class := { plain "[B" (some 0) with kind := .array 5 .byte, interfaces := #[3, 4], accessFlags := 1041 }

/-- the primitive int -/
def k7 : Class := { plain "int" none with kind := .primitive 'I', accessFlags := 0x411 }
/-- [I -/
def k8 : Class := { plain "[I" (some 0) with kind := .array 7 .int, interfaces := #[3, 4], accessFlags := 1041 }

/-- the primitive long -/
def k9 : Class := { plain "long" none with kind := .primitive 'J', accessFlags := 0x411 }
/-- [J -/
def k10 : Class := { plain "[J" (some 0) with kind := .array 9 .long, interfaces := #[3, 4], accessFlags := 1041 }

def heap : Heap := #[{ cls := 2, slots := #[.ref 1, .long 0, .long 0, .int 0], vm := .statics 2 },
  { cls := 10, slots := #[.long 1, .long 10, .long 100, .long 1000, .long 10000, .long 100000, .long 1000000, .long 10000000, .long 100000000, .long 1000000000, .long 10000000000, .long 100000000000, .long 1000000000000, .long 10000000000000, .long 100000000000000, .long 1000000000000000, .long 10000000000000000, .long 100000000000000000, .long 1000000000000000000], vm := .none }]
def classes : Array Class := #[k0, k1, k2, k3, k4, k5, k6, k7, k8, k9, k10]
def interned : List (Array UInt16 × Addr) := []
def slotsUsed : Nat := 23
def theMethod : MethodId := ⟨1, 1⟩
def args0 : Array Value := #[.long 5, .int 1]
def aboutOver (below : List Frame) : State where
  vm := { classes := classes, interned := interned.toArray }
  heap := heap
  slotsUsed := slotsUsed
  threads := #[{ frames := .invoking theMethod args0 :: below }]
def below0 : List Frame := [.native { method := ⟨0, 0⟩, args := #[] }]
def about1 : State := aboutOver below0
def p0 : Program := .bare "" "" ""
def e0 : Env := launch0.env 0 0 0
theorem w_frames : about1.frames = Frame.invoking theMethod args0 :: below0 := rfl
set_option maxRecDepth 65536 in
theorem w_args : argsFit about1.vm theMethod args0 = true := by decide +kernel
set_option maxRecDepth 65536 in
theorem w_heap : heapFits about1 = true := by decide +kernel
set_option maxRecDepth 65536 in
theorem w_runnable : about1.curStatus? = some .runnable := by decide +kernel
set_option maxRecDepth 65536 in
theorem w_alone : about1.alone = true := by decide +kernel
set_option maxRecDepth 65536 in
theorem w_named : about1.methodNamed? x = some theMethod := by decide +kernel
set_option maxRecDepth 65536 in
theorem w_hears : about1.hears theMethod below0 = true := by decide +kernel
set_option maxRecDepth 65536 in
theorem w_ripe : about1.ripe theMethod args0 below0 = true := by decide +kernel
theorem w_running : about1.status = .running := rfl
set_option maxRecDepth 65536 in
theorem w_room : about1.hasRoom e0.platform room_1 = true :=
  launch0.hasRoom_least _ room_1 (by decide +kernel) (by decide +kernel) (by decide +kernel) (by decide +kernel) (by decide +kernel) (by decide +kernel)
theorem allAtoms_all (ts : List Jvm.Cond) (a : Array Jvm.Value) (st : Jvm.State) : (allAtoms ts).before a st = ts.all (fun c => c.before a st) := by
  induction ts with
  | nil => rfl
  | cons c t ih =>
    show (Jvm.Cond.and c (allAtoms t)).before a st = _
    rw [Jvm.Cond.before_and, ih, List.all_cons]
def words1 : List Jvm.Cond := Jvm.Cond.code x code maxLocals ret :: tables_1
/-- a 'code' word, met by the world's own term for the bytes: nothing is compared byte by byte -/
theorem code_word {y : MethodName} {bytes : ByteArray} {mx : Nat} {rt : Option FieldType} {a : Array Value} {s : State} {m : MethodId} {meth : Method} {c : Code} (h1 : s.methodNamed? y = some m) (h2 : s.vm.method? m = some meth) (h3 : meth.code = some c) (h4 : c.code = bytes)
    (h5 : (c.maxLocals == mx && c.exceptionTable.isEmpty && decide (c.maxStack ≤ mostOperands) && decide (meth.sig.returnType = rt) && !meth.locks && decide (parseMethodDescriptor y.desc = some meth.sig)) = true) : (Jvm.Cond.code y bytes mx rt).before a s = true := by
  simp only [Bool.and_eq_true, beq_iff_eq, Bool.not_eq_true', decide_eq_true_eq] at h5
  obtain ⟨⟨⟨⟨⟨g1, g2⟩, g3⟩, g4⟩, g5⟩, g6⟩ := h5
  simp [Cond.before, Cond.holds, Cond.value, h1, h2, h3, h4, g1, g2, g3, g4, g5, g6]
def isCode : Jvm.Cond → Bool
  | .code _ _ _ _ => true
  | _ => false
theorem all_split {L : List Jvm.Cond} {P : Jvm.Cond → Bool} (h1 : L.all (fun c => isCode c || P c) = true) (h2 : ∀ c ∈ L.filter isCode, P c = true) : L.all P = true := by
  refine List.all_eq_true.mpr fun c hc => ?_
  have h := List.all_eq_true.mp h1 c hc
  rcases Bool.eq_false_or_eq_true (isCode c) with hi | hi
  · exact h2 c (List.mem_filter.mpr ⟨hc, hi⟩)
  · simpa [hi] using h
set_option maxRecDepth 65536 in
theorem w_c0 : (Jvm.Cond.code x code maxLocals ret).before args0 about1 = true := code_word (m := ⟨1, 1⟩) (meth := k1m1) (c := k1c1) (by decide +kernel) rfl rfl rfl (by decide +kernel)
set_option maxRecDepth 65536 in
theorem w_c1 : (Jvm.Cond.code ({ cls := "com/example/mirrorgauge/mirrorgauge/message/Decimal", name := "length", desc := "(J)I" } : Jvm.MethodName) prog_49_method_2_code (3 : Nat) (Option.some Jvm.ClassFile.FieldType.int)).before args0 about1 = true := code_word (m := ⟨2, 1⟩) (meth := k2m1) (c := k2c1) (by decide +kernel) rfl rfl rfl (by decide +kernel)
def codes1 : List Jvm.Cond := [Jvm.Cond.code x code maxLocals ret, Jvm.Cond.code ({ cls := "com/example/mirrorgauge/mirrorgauge/message/Decimal", name := "length", desc := "(J)I" } : Jvm.MethodName) prog_49_method_2_code (3 : Nat) (Option.some Jvm.ClassFile.FieldType.int)]
set_option maxRecDepth 65536 in
theorem codes_eq : words1.filter isCode = codes1 := rfl
theorem w_codes : ∀ c ∈ words1.filter isCode, c.before args0 about1 = true := by
  rw [codes_eq]
  intro c hc
  simp only [codes1, List.mem_cons, List.not_mem_nil, or_false] at hc
  rcases hc with rfl | rfl
  · exact w_c0
  · exact w_c1
set_option maxRecDepth 65536 in
theorem w_t1 : (words1.take 24).all (fun c => isCode c || c.before args0 about1) = true := by decide +kernel
set_option maxRecDepth 65536 in
theorem w_t2 : (words1.drop 24).all (fun c => isCode c || c.before args0 about1) = true := by decide +kernel
theorem w_tables : (allAtoms (Jvm.Cond.code x code maxLocals ret :: tables_1)).before args0 about1 = true := by
  rw [allAtoms_all]
  show words1.all (fun c => c.before args0 about1) = true
  refine all_split ?_ w_codes
  rw [← List.take_append_drop 24 words1, List.all_append, w_t1, w_t2]
  rfl
set_option maxRecDepth 65536 in
theorem w_case : (Jvm.Cond.and given_1 narrow_1).before args0 about1 = true := by decide +kernel
theorem w_applies : (headSpec (Jvm.Cond.code x code maxLocals ret :: tables_1) room_1).applies x e0.platform about1 = true :=
  (Spec.applies_iff w_frames).mpr ⟨w_running, w_runnable, w_alone, w_named, w_hears, w_ripe, w_room, w_tables⟩
theorem atStart : AtStart classFile x code maxLocals ret World_1 tables_1 room_1 Calls_1 rest_1 Pre_1 launch0 p0 e0 about1 theMethod args0 below0 :=
  ⟨lists_1, trivial, launch0.admits_env _ _ _, launch0.least_env, fairChoices_fair.cas, fairChoices_fair.clock, w_frames, w_args, w_heap, w_applies, trivial, trivial, w_case⟩
end start1
theorem witness_1 : WitnessClaimed_1 := ⟨start1.p0, start1.e0, start1.about1, start1.theMethod, start1.args0, start1.below0, start1.atStart⟩
end Jvm.Pilot.@@N@@
