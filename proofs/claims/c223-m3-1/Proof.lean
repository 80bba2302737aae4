import JvmDerived
import JvmDerived.Pilot.@@N@@Statement
import JvmDerived.Pilot.@@N@@Code
set_option linter.unusedVariables false
set_option linter.unusedSimpArgs false
namespace Jvm.EKit
open Sem ClassFile Op Lib Jvm.Stand Jvm.Free Jvm.LawKit Jvm.RoadKit
/-- from the frame F at T the body comes to a return that answers Q -/
def Ends (p : Program) (l : Launch) (e : Env) (R : Room) (s : State) (m : MethodId) (args : Array Value) (below : List Frame) (meth : Method) (c : Code) (C S : Nat) (Q : Option Value → Heap → List Loc → Prop) (T : State) (F : JFrame) : Prop :=
  ∃ (T' : State) (locs : List Loc) (cells slots : Nat) (v : Option Value), Stand p l e R s m args below meth c T' locs cells slots ∧ Q v T'.heap locs ∧ cells ≤ C ∧ slots ≤ S ∧ (meth.sig.returnType = none → v = none) ∧
    ∀ fs, (∀ (f : JFrame) (acts : List Action), f.method = m → f.locked = none → f.entered = [] → (doReturn e (T'.setTop f) acts v).1 = T'.setFrames fs) → Steps p.tables e below (T.setTop F) (T'.setFrames fs)
/-- the contract of a body -/
def Pays (l : Launch) (Z : State) (y : MethodName) (bytes : ByteArray) (maxL : Nat) (ret : Option FieldType) (ws : List Jvm.Cond) (rm : Room) (as' : Array Value) (h : Heap) (Q : Option Value → Heap → List Loc → Prop) : Prop :=
  MetFree l y (head1 (Jvm.Cond.code y bytes maxL ret :: ws) rm) (fun a U => a = as' ∧ Z.Warmed39 U.vm ∧ U.heap = h) (fun _ _ _ _ _ => True) (fun _ U o U' => ∃ v L, o = .returned v ∧ Q v U'.heap L ∧ FrameEnd U o U' L rm.cells rm.slots)
/-- it returns V and writes nothing -/
def RetQ (V : Option Value) (h : Heap) : Option Value → Heap → List Loc → Prop := fun v h' L => v = V ∧ h' = h ∧ L = []
section
variable {p : Program} {l : Launch} {e : Env} {R : Room} {s : State} {m : MethodId} {args : Array Value} {below : List Frame} {meth : Method} {c : Code} {T : State} {locs : List Loc} {cells slots : Nat} {C S : Nat} {Q : Option Value → Heap → List Loc → Prop} {pc q : Nat} {Ls : Array Slot} {st rest : List Value}
theorem step {T1 : State} {F F1 : JFrame} (h : ∀ t, Steps p.tables e below (T1.setTop F1) t → Steps p.tables e below (T.setTop F) t) (k : Ends p l e R s m args below meth c C S Q T1 F1) : Ends p l e R s m args below meth c C S Q T F := by
  obtain ⟨T', locs, cells, slots, v, h1, h2, h3, h4, h5, h6⟩ := k
  exact ⟨T', locs, cells, slots, v, h1, h2, h3, h4, h5, fun fs hl => h _ (h6 fs hl)⟩
theorem pays {Z : State} {y : MethodName} {bytes : ByteArray} {maxL : Nat} {ret : Option FieldType} {ws : List Jvm.Cond} {rm : Room} {as' : Array Value} {h : Heap} (hpl : plainFor y = true) {F0 : MethodId → JFrame} (hF : ∀ m, entryFrame m as' maxL = F0 m)
    (k : ∀ (p : Program) (e : Env) (s : State) (m : MethodId) (below : List Frame) (meth : Method) (c : Code) (s₁ : State), p.tables.exec = Jvm.exec → c.code = bytes → c.maxLocals = maxL → Z.Warmed39 s.vm → s.vm.findClass y.cls = some m.cls → meth.name = y.name → meth.sig.returnType = ret → Stand p l e rm s m as' below meth c s₁ [] 0 0 → s₁.heap = h → s.heap = h →
      Ends p l e rm s m as' below meth c rm.cells rm.slots Q s₁ (F0 m)) : Pays l Z y bytes maxL ret ws rm as' h Q := by
  refine MetFree.of_bodySF hpl hisR ?_
  intro p e s m args below meth c s₁ Bd hml0 hP hK
  obtain ⟨rfl, hZ, hh⟩ := hP
  obtain ⟨T', locs, cells, slots, v, X, hQ, h3, h4, h5, h6⟩ := k p e s m below meth c s₁ Bd.exec Bd.bytes hml0 hZ (findClass_of_methodNamed Bd.named) (name_of_methodNamed Bd.named Bd.method).1 Bd.returns (Stand.of_body Bd) (by rw [← hh, Bd.state]; rfl) hh
  obtain ⟨fs, hr, hrun, hended, hW, hsame⟩ := X.leave (v := v) h5
  exact ⟨_, _, castTop (hF m) (h6 fs hr), hrun, hended, v, locs, rfl, hQ, ⟨_, rfl⟩, hW, hsame.mono h3 h4⟩
theorem iloadN (X : Stand p l e R s m args below meth c T locs cells slots) (hx : p.tables.exec = Jvm.exec) {k0 : Fin 4} {v : Int32} (hl : Ls[k0.val]? = some (.val (.int v))) (hd : decode c.code pc = .ok (.iload_n k0, 1)) (hq : pc + 1 = q) (k : Ends p l e R s m args below meth c C S Q T (mkF m q Ls (.int v :: st))) : Ends p l e R s m args below meth c C S Q T (mkF m pc Ls (st)) := step (fun _ h => by subst hq; exact XS.iloadN X.here hx rfl hd hl h) k
theorem iload (X : Stand p l e R s m args below meth c T locs cells slots) (hx : p.tables.exec = Jvm.exec) {k0 : Nat} {v : Int32} (hl : Ls[k0]? = some (.val (.int v))) (hd : decode c.code pc = .ok (.iload k0, 2)) (hq : pc + 2 = q) (k : Ends p l e R s m args below meth c C S Q T (mkF m q Ls (.int v :: st))) : Ends p l e R s m args below meth c C S Q T (mkF m pc Ls (st)) := step (fun _ h => by subst hq; exact XS.iload X.here hx rfl hd hl h) k
theorem istoreN (X : Stand p l e R s m args below meth c T locs cells slots) (hx : p.tables.exec = Jvm.exec) {k0 : Fin 4} {v : Int32} {l' : Array Slot} (hl : storeLocals Ls k0.val (.int v) = some l') (hd : decode c.code pc = .ok (.istore_n k0, 1)) (hq : pc + 1 = q) (k : Ends p l e R s m args below meth c C S Q T (mkF m q l' (st))) : Ends p l e R s m args below meth c C S Q T (mkF m pc Ls (.int v :: st)) := step (fun _ h => by subst hq; exact XS.istoreN X.here hx rfl hd rfl hl h) k
theorem istore (X : Stand p l e R s m args below meth c T locs cells slots) (hx : p.tables.exec = Jvm.exec) {k0 : Nat} {v : Int32} {l' : Array Slot} (hl : storeLocals Ls k0 (.int v) = some l') (hd : decode c.code pc = .ok (.istore k0, 2)) (hq : pc + 2 = q) (k : Ends p l e R s m args below meth c C S Q T (mkF m q l' (st))) : Ends p l e R s m args below meth c C S Q T (mkF m pc Ls (.int v :: st)) := step (fun _ h => by subst hq; exact XS.istore X.here hx rfl hd rfl hl h) k
theorem lloadN (X : Stand p l e R s m args below meth c T locs cells slots) (hx : p.tables.exec = Jvm.exec) {k0 : Fin 4} {v : Int64} (hl : Ls[k0.val]? = some (.val (.long v))) (hd : decode c.code pc = .ok (.lload_n k0, 1)) (hq : pc + 1 = q) (k : Ends p l e R s m args below meth c C S Q T (mkF m q Ls (.long v :: st))) : Ends p l e R s m args below meth c C S Q T (mkF m pc Ls (st)) := step (fun _ h => by subst hq; exact XS.lloadN X.here hx rfl hd hl h) k
theorem lload (X : Stand p l e R s m args below meth c T locs cells slots) (hx : p.tables.exec = Jvm.exec) {k0 : Nat} {v : Int64} (hl : Ls[k0]? = some (.val (.long v))) (hd : decode c.code pc = .ok (.lload k0, 2)) (hq : pc + 2 = q) (k : Ends p l e R s m args below meth c C S Q T (mkF m q Ls (.long v :: st))) : Ends p l e R s m args below meth c C S Q T (mkF m pc Ls (st)) := step (fun _ h => by subst hq; exact XS.lload X.here hx rfl hd hl h) k
theorem lstoreN (X : Stand p l e R s m args below meth c T locs cells slots) (hx : p.tables.exec = Jvm.exec) {k0 : Fin 4} {v : Int64} {l' : Array Slot} (hl : storeLocals Ls k0.val (.long v) = some l') (hd : decode c.code pc = .ok (.lstore_n k0, 1)) (hq : pc + 1 = q) (k : Ends p l e R s m args below meth c C S Q T (mkF m q l' (st))) : Ends p l e R s m args below meth c C S Q T (mkF m pc Ls (.long v :: st)) := step (fun _ h => by subst hq; exact XS.lstoreN X.here hx rfl hd rfl hl h) k
theorem lstore (X : Stand p l e R s m args below meth c T locs cells slots) (hx : p.tables.exec = Jvm.exec) {k0 : Nat} {v : Int64} {l' : Array Slot} (hl : storeLocals Ls k0 (.long v) = some l') (hd : decode c.code pc = .ok (.lstore k0, 2)) (hq : pc + 2 = q) (k : Ends p l e R s m args below meth c C S Q T (mkF m q l' (st))) : Ends p l e R s m args below meth c C S Q T (mkF m pc Ls (.long v :: st)) := step (fun _ h => by subst hq; exact XS.lstore X.here hx rfl hd rfl hl h) k
theorem aloadN (X : Stand p l e R s m args below meth c T locs cells slots) (hx : p.tables.exec = Jvm.exec) {k0 : Fin 4} {v : Value} (hl : Ls[k0.val]? = some (.val v)) (hv : v.isRef = true) (hd : decode c.code pc = .ok (.aload_n k0, 1)) (hq : pc + 1 = q) (k : Ends p l e R s m args below meth c C S Q T (mkF m q Ls (v :: st))) : Ends p l e R s m args below meth c C S Q T (mkF m pc Ls (st)) := step (fun _ h => by subst hq; exact XS.aloadN X.here hx rfl hd hl hv h) k
theorem aload (X : Stand p l e R s m args below meth c T locs cells slots) (hx : p.tables.exec = Jvm.exec) {k0 : Nat} {v : Value} (hl : Ls[k0]? = some (.val v)) (hv : v.isRef = true) (hd : decode c.code pc = .ok (.aload k0, 2)) (hq : pc + 2 = q) (k : Ends p l e R s m args below meth c C S Q T (mkF m q Ls (v :: st))) : Ends p l e R s m args below meth c C S Q T (mkF m pc Ls (st)) := step (fun _ h => by subst hq; exact XS.aload X.here hx rfl hd hl hv h) k
theorem astoreN (X : Stand p l e R s m args below meth c T locs cells slots) (hx : p.tables.exec = Jvm.exec) {k0 : Fin 4} {v : Value} {l' : Array Slot} (hv : v.isRef = true) (hl : storeLocals Ls k0.val v = some l') (hd : decode c.code pc = .ok (.astore_n k0, 1)) (hq : pc + 1 = q) (k : Ends p l e R s m args below meth c C S Q T (mkF m q l' (st))) : Ends p l e R s m args below meth c C S Q T (mkF m pc Ls (v :: st)) := step (fun _ h => by subst hq; exact XS.astoreN X.here hx rfl hd rfl hv hl h) k
theorem astore (X : Stand p l e R s m args below meth c T locs cells slots) (hx : p.tables.exec = Jvm.exec) {k0 : Nat} {v : Value} {l' : Array Slot} (hv : v.isRef = true) (hl : storeLocals Ls k0 v = some l') (hd : decode c.code pc = .ok (.astore k0, 2)) (hq : pc + 2 = q) (k : Ends p l e R s m args below meth c C S Q T (mkF m q l' (st))) : Ends p l e R s m args below meth c C S Q T (mkF m pc Ls (v :: st)) := step (fun _ h => by subst hq; exact XS.astore X.here hx rfl hd rfl hv hl h) k
theorem iconst (X : Stand p l e R s m args below meth c T locs cells slots) (hx : p.tables.exec = Jvm.exec) {i : Int} {v : Int32} (hv : Int32.ofInt i = v) (hd : decode c.code pc = .ok (.iconst i, 1)) (hq : pc + 1 = q) (k : Ends p l e R s m args below meth c C S Q T (mkF m q Ls (.int v :: st))) : Ends p l e R s m args below meth c C S Q T (mkF m pc Ls (st)) := step (fun _ h => by subst hq; exact XS.iconst X.here hx rfl hd (by rw [hv]; exact h)) k
theorem bipush (X : Stand p l e R s m args below meth c T locs cells slots) (hx : p.tables.exec = Jvm.exec) {i : Int} {v : Int32} (hv : (Int8.ofInt i).toInt32 = v) (hd : decode c.code pc = .ok (.bipush i, 2)) (hq : pc + 2 = q) (k : Ends p l e R s m args below meth c C S Q T (mkF m q Ls (.int v :: st))) : Ends p l e R s m args below meth c C S Q T (mkF m pc Ls (st)) := step (fun _ h => by subst hq; exact XS.bipush X.here hx rfl hd (by rw [hv]; exact h)) k
theorem sipush (X : Stand p l e R s m args below meth c T locs cells slots) (hx : p.tables.exec = Jvm.exec) {i : Int} {v : Int32} (hv : (Int16.ofInt i).toInt32 = v) (hd : decode c.code pc = .ok (.sipush i, 3)) (hq : pc + 3 = q) (k : Ends p l e R s m args below meth c C S Q T (mkF m q Ls (.int v :: st))) : Ends p l e R s m args below meth c C S Q T (mkF m pc Ls (st)) := step (fun _ h => by subst hq; exact XS.sipush X.here hx rfl hd (by rw [hv]; exact h)) k
theorem lconst (X : Stand p l e R s m args below meth c T locs cells slots) (hx : p.tables.exec = Jvm.exec) {i : Fin 2} {v : Int64} (hv : Int64.ofNat i = v) (hd : decode c.code pc = .ok (.lconst i, 1)) (hq : pc + 1 = q) (k : Ends p l e R s m args below meth c C S Q T (mkF m q Ls (.long v :: st))) : Ends p l e R s m args below meth c C S Q T (mkF m pc Ls (st)) := step (fun _ h => by subst hq; exact XS.lconst X.here hx rfl hd (by rw [hv]; exact h)) k
theorem aconstNull (X : Stand p l e R s m args below meth c T locs cells slots) (hx : p.tables.exec = Jvm.exec)  (hd : decode c.code pc = .ok (.aconst_null, 1)) (hq : pc + 1 = q) (k : Ends p l e R s m args below meth c C S Q T (mkF m q Ls (.null :: st))) : Ends p l e R s m args below meth c C S Q T (mkF m pc Ls (st)) := step (fun _ h => by subst hq; exact XS.aconstNull X.here hx rfl hd h) k
theorem iadd (X : Stand p l e R s m args below meth c T locs cells slots) (hx : p.tables.exec = Jvm.exec) {x y : Int32} (hd : decode c.code pc = .ok (.iadd, 1)) (hq : pc + 1 = q) (k : Ends p l e R s m args below meth c C S Q T (mkF m q Ls (.int (x + y) :: st))) : Ends p l e R s m args below meth c C S Q T (mkF m pc Ls (.int y :: .int x :: st)) := step (fun _ h => by subst hq; exact XS.iadd X.here hx rfl hd rfl h) k
theorem isub (X : Stand p l e R s m args below meth c T locs cells slots) (hx : p.tables.exec = Jvm.exec) {x y : Int32} (hd : decode c.code pc = .ok (.isub, 1)) (hq : pc + 1 = q) (k : Ends p l e R s m args below meth c C S Q T (mkF m q Ls (.int (x - y) :: st))) : Ends p l e R s m args below meth c C S Q T (mkF m pc Ls (.int y :: .int x :: st)) := step (fun _ h => by subst hq; exact XS.isub X.here hx rfl hd rfl h) k
theorem imul (X : Stand p l e R s m args below meth c T locs cells slots) (hx : p.tables.exec = Jvm.exec) {x y : Int32} (hd : decode c.code pc = .ok (.imul, 1)) (hq : pc + 1 = q) (k : Ends p l e R s m args below meth c C S Q T (mkF m q Ls (.int (x * y) :: st))) : Ends p l e R s m args below meth c C S Q T (mkF m pc Ls (.int y :: .int x :: st)) := step (fun _ h => by subst hq; exact XS.imul X.here hx rfl hd rfl h) k
theorem iand (X : Stand p l e R s m args below meth c T locs cells slots) (hx : p.tables.exec = Jvm.exec) {x y : Int32} (hd : decode c.code pc = .ok (.iand, 1)) (hq : pc + 1 = q) (k : Ends p l e R s m args below meth c C S Q T (mkF m q Ls (.int (x &&& y) :: st))) : Ends p l e R s m args below meth c C S Q T (mkF m pc Ls (.int y :: .int x :: st)) := step (fun _ h => by subst hq; exact XS.iand X.here hx rfl hd rfl h) k
theorem ior (X : Stand p l e R s m args below meth c T locs cells slots) (hx : p.tables.exec = Jvm.exec) {x y : Int32} (hd : decode c.code pc = .ok (.ior, 1)) (hq : pc + 1 = q) (k : Ends p l e R s m args below meth c C S Q T (mkF m q Ls (.int (x ||| y) :: st))) : Ends p l e R s m args below meth c C S Q T (mkF m pc Ls (.int y :: .int x :: st)) := step (fun _ h => by subst hq; exact XS.ior X.here hx rfl hd rfl h) k
theorem ixor (X : Stand p l e R s m args below meth c T locs cells slots) (hx : p.tables.exec = Jvm.exec) {x y : Int32} (hd : decode c.code pc = .ok (.ixor, 1)) (hq : pc + 1 = q) (k : Ends p l e R s m args below meth c C S Q T (mkF m q Ls (.int (x ^^^ y) :: st))) : Ends p l e R s m args below meth c C S Q T (mkF m pc Ls (.int y :: .int x :: st)) := step (fun _ h => by subst hq; exact XS.ixor X.here hx rfl hd rfl h) k
theorem ineg (X : Stand p l e R s m args below meth c T locs cells slots) (hx : p.tables.exec = Jvm.exec) {x : Int32} (hd : decode c.code pc = .ok (.ineg, 1)) (hq : pc + 1 = q) (k : Ends p l e R s m args below meth c C S Q T (mkF m q Ls (.int (-x) :: st))) : Ends p l e R s m args below meth c C S Q T (mkF m pc Ls (.int x :: st)) := step (fun _ h => by subst hq; exact XS.ineg X.here hx rfl hd rfl h) k
theorem idiv (X : Stand p l e R s m args below meth c T locs cells slots) (hx : p.tables.exec = Jvm.exec) {x y : Int32} (hy : y ≠ 0) (hd : decode c.code pc = .ok (.idiv, 1)) (hq : pc + 1 = q) (k : Ends p l e R s m args below meth c C S Q T (mkF m q Ls (.int (x / y) :: st))) : Ends p l e R s m args below meth c C S Q T (mkF m pc Ls (.int y :: .int x :: st)) := step (fun _ h => by subst hq; exact XS.idiv X.here hx rfl hd rfl hy h) k
theorem ladd (X : Stand p l e R s m args below meth c T locs cells slots) (hx : p.tables.exec = Jvm.exec) {x y : Int64} (hd : decode c.code pc = .ok (.ladd, 1)) (hq : pc + 1 = q) (k : Ends p l e R s m args below meth c C S Q T (mkF m q Ls (.long (x + y) :: st))) : Ends p l e R s m args below meth c C S Q T (mkF m pc Ls (.long y :: .long x :: st)) := step (fun _ h => by subst hq; exact XS.ladd X.here hx rfl hd rfl h) k
theorem lsub (X : Stand p l e R s m args below meth c T locs cells slots) (hx : p.tables.exec = Jvm.exec) {x y : Int64} (hd : decode c.code pc = .ok (.lsub, 1)) (hq : pc + 1 = q) (k : Ends p l e R s m args below meth c C S Q T (mkF m q Ls (.long (x - y) :: st))) : Ends p l e R s m args below meth c C S Q T (mkF m pc Ls (.long y :: .long x :: st)) := step (fun _ h => by subst hq; exact XS.lsub X.here hx rfl hd rfl h) k
theorem lmul (X : Stand p l e R s m args below meth c T locs cells slots) (hx : p.tables.exec = Jvm.exec) {x y : Int64} (hd : decode c.code pc = .ok (.lmul, 1)) (hq : pc + 1 = q) (k : Ends p l e R s m args below meth c C S Q T (mkF m q Ls (.long (x * y) :: st))) : Ends p l e R s m args below meth c C S Q T (mkF m pc Ls (.long y :: .long x :: st)) := step (fun _ h => by subst hq; exact XS.lmul X.here hx rfl hd rfl h) k
theorem land (X : Stand p l e R s m args below meth c T locs cells slots) (hx : p.tables.exec = Jvm.exec) {x y : Int64} (hd : decode c.code pc = .ok (.land, 1)) (hq : pc + 1 = q) (k : Ends p l e R s m args below meth c C S Q T (mkF m q Ls (.long (x &&& y) :: st))) : Ends p l e R s m args below meth c C S Q T (mkF m pc Ls (.long y :: .long x :: st)) := step (fun _ h => by subst hq; exact XS.land X.here hx rfl hd rfl h) k
theorem lor (X : Stand p l e R s m args below meth c T locs cells slots) (hx : p.tables.exec = Jvm.exec) {x y : Int64} (hd : decode c.code pc = .ok (.lor, 1)) (hq : pc + 1 = q) (k : Ends p l e R s m args below meth c C S Q T (mkF m q Ls (.long (x ||| y) :: st))) : Ends p l e R s m args below meth c C S Q T (mkF m pc Ls (.long y :: .long x :: st)) := step (fun _ h => by subst hq; exact XS.lor X.here hx rfl hd rfl h) k
theorem lxor (X : Stand p l e R s m args below meth c T locs cells slots) (hx : p.tables.exec = Jvm.exec) {x y : Int64} (hd : decode c.code pc = .ok (.lxor, 1)) (hq : pc + 1 = q) (k : Ends p l e R s m args below meth c C S Q T (mkF m q Ls (.long (x ^^^ y) :: st))) : Ends p l e R s m args below meth c C S Q T (mkF m pc Ls (.long y :: .long x :: st)) := step (fun _ h => by subst hq; exact XS.lxor X.here hx rfl hd rfl h) k
theorem lneg (X : Stand p l e R s m args below meth c T locs cells slots) (hx : p.tables.exec = Jvm.exec) {x : Int64} (hd : decode c.code pc = .ok (.lneg, 1)) (hq : pc + 1 = q) (k : Ends p l e R s m args below meth c C S Q T (mkF m q Ls (.long (-x) :: st))) : Ends p l e R s m args below meth c C S Q T (mkF m pc Ls (.long x :: st)) := step (fun _ h => by subst hq; exact XS.lneg X.here hx rfl hd rfl h) k
theorem ldiv (X : Stand p l e R s m args below meth c T locs cells slots) (hx : p.tables.exec = Jvm.exec) {x y : Int64} (hy : y ≠ 0) (hd : decode c.code pc = .ok (.ldiv, 1)) (hq : pc + 1 = q) (k : Ends p l e R s m args below meth c C S Q T (mkF m q Ls (.long (x / y) :: st))) : Ends p l e R s m args below meth c C S Q T (mkF m pc Ls (.long y :: .long x :: st)) := step (fun _ h => by subst hq; exact XS.ldiv X.here hx rfl hd rfl hy h) k
theorem irem (X : Stand p l e R s m args below meth c T locs cells slots) (hx : p.tables.exec = Jvm.exec) {x y : Int32} (hy : y ≠ 0) (hd : decode c.code pc = .ok (.irem, 1)) (hq : pc + 1 = q) (k : Ends p l e R s m args below meth c C S Q T (mkF m q Ls (.int (x % y) :: st))) : Ends p l e R s m args below meth c C S Q T (mkF m pc Ls (.int y :: .int x :: st)) := step (fun _ h => by subst hq; exact iremM X hx rfl hd rfl hy h) k
theorem lrem (X : Stand p l e R s m args below meth c T locs cells slots) (hx : p.tables.exec = Jvm.exec) {x y : Int64} (hy : y ≠ 0) (hd : decode c.code pc = .ok (.lrem, 1)) (hq : pc + 1 = q) (k : Ends p l e R s m args below meth c C S Q T (mkF m q Ls (.long (x % y) :: st))) : Ends p l e R s m args below meth c C S Q T (mkF m pc Ls (.long y :: .long x :: st)) := step (fun _ h => by subst hq; exact XS.lrem X.here hx rfl hd rfl hy (by rw [lrem_mod]; exact h)) k
theorem ishl (X : Stand p l e R s m args below meth c T locs cells slots) (hx : p.tables.exec = Jvm.exec) {x : Int32} {y : Int32} (hd : decode c.code pc = .ok (.ishl, 1)) (hq : pc + 1 = q) (k : Ends p l e R s m args below meth c C S Q T (mkF m q Ls (.int (x <<< (y &&& 31)) :: st))) : Ends p l e R s m args below meth c C S Q T (mkF m pc Ls (.int y :: .int x :: st)) := step (fun _ h => by subst hq; exact XS.ishl X.here hx rfl hd rfl h) k
theorem ishr (X : Stand p l e R s m args below meth c T locs cells slots) (hx : p.tables.exec = Jvm.exec) {x : Int32} {y : Int32} (hd : decode c.code pc = .ok (.ishr, 1)) (hq : pc + 1 = q) (k : Ends p l e R s m args below meth c C S Q T (mkF m q Ls (.int (x >>> (y &&& 31)) :: st))) : Ends p l e R s m args below meth c C S Q T (mkF m pc Ls (.int y :: .int x :: st)) := step (fun _ h => by subst hq; exact XS.ishr X.here hx rfl hd rfl h) k
theorem iushr (X : Stand p l e R s m args below meth c T locs cells slots) (hx : p.tables.exec = Jvm.exec) {x : Int32} {y : Int32} (hd : decode c.code pc = .ok (.iushr, 1)) (hq : pc + 1 = q) (k : Ends p l e R s m args below meth c C S Q T (mkF m q Ls (.int ((x.toUInt32 >>> (y &&& 31).toUInt32).toInt32) :: st))) : Ends p l e R s m args below meth c C S Q T (mkF m pc Ls (.int y :: .int x :: st)) := step (fun _ h => by subst hq; exact XS.iushr X.here hx rfl hd rfl h) k
theorem lshl (X : Stand p l e R s m args below meth c T locs cells slots) (hx : p.tables.exec = Jvm.exec) {x : Int64} {y : Int32} (hd : decode c.code pc = .ok (.lshl, 1)) (hq : pc + 1 = q) (k : Ends p l e R s m args below meth c C S Q T (mkF m q Ls (.long (x <<< (y &&& 0x3f).toInt64) :: st))) : Ends p l e R s m args below meth c C S Q T (mkF m pc Ls (.int y :: .long x :: st)) := step (fun _ h => by subst hq; exact XS.lshl X.here hx rfl hd rfl h) k
theorem lshr (X : Stand p l e R s m args below meth c T locs cells slots) (hx : p.tables.exec = Jvm.exec) {x : Int64} {y : Int32} (hd : decode c.code pc = .ok (.lshr, 1)) (hq : pc + 1 = q) (k : Ends p l e R s m args below meth c C S Q T (mkF m q Ls (.long (x >>> (y &&& 0x3f).toInt64) :: st))) : Ends p l e R s m args below meth c C S Q T (mkF m pc Ls (.int y :: .long x :: st)) := step (fun _ h => by subst hq; exact XS.lshr X.here hx rfl hd rfl h) k
theorem lushr (X : Stand p l e R s m args below meth c T locs cells slots) (hx : p.tables.exec = Jvm.exec) {x : Int64} {y : Int32} (hd : decode c.code pc = .ok (.lushr, 1)) (hq : pc + 1 = q) (k : Ends p l e R s m args below meth c C S Q T (mkF m q Ls (.long ((x.toUInt64 >>> (y &&& 0x3f).toInt64.toUInt64).toInt64) :: st))) : Ends p l e R s m args below meth c C S Q T (mkF m pc Ls (.int y :: .long x :: st)) := step (fun _ h => by subst hq; exact XS.lushr X.here hx rfl hd rfl h) k
theorem i2l (X : Stand p l e R s m args below meth c T locs cells slots) (hx : p.tables.exec = Jvm.exec) {x : Int32} (hd : decode c.code pc = .ok (.i2l, 1)) (hq : pc + 1 = q) (k : Ends p l e R s m args below meth c C S Q T (mkF m q Ls (.long (x.toInt64) :: st))) : Ends p l e R s m args below meth c C S Q T (mkF m pc Ls (.int x :: st)) := step (fun _ h => by subst hq; exact XS.i2l X.here hx rfl hd rfl h) k
theorem l2i (X : Stand p l e R s m args below meth c T locs cells slots) (hx : p.tables.exec = Jvm.exec) {x : Int64} (hd : decode c.code pc = .ok (.l2i, 1)) (hq : pc + 1 = q) (k : Ends p l e R s m args below meth c C S Q T (mkF m q Ls (.int (x.toInt32) :: st))) : Ends p l e R s m args below meth c C S Q T (mkF m pc Ls (.long x :: st)) := step (fun _ h => by subst hq; exact XS.l2i X.here hx rfl hd rfl h) k
theorem i2b (X : Stand p l e R s m args below meth c T locs cells slots) (hx : p.tables.exec = Jvm.exec) {x : Int32} (hd : decode c.code pc = .ok (.i2b, 1)) (hq : pc + 1 = q) (k : Ends p l e R s m args below meth c C S Q T (mkF m q Ls (.int (x.toInt8.toInt32) :: st))) : Ends p l e R s m args below meth c C S Q T (mkF m pc Ls (.int x :: st)) := step (fun _ h => by subst hq; exact XS.i2b X.here hx rfl hd rfl h) k
theorem i2s (X : Stand p l e R s m args below meth c T locs cells slots) (hx : p.tables.exec = Jvm.exec) {x : Int32} (hd : decode c.code pc = .ok (.i2s, 1)) (hq : pc + 1 = q) (k : Ends p l e R s m args below meth c C S Q T (mkF m q Ls (.int (x.toInt16.toInt32) :: st))) : Ends p l e R s m args below meth c C S Q T (mkF m pc Ls (.int x :: st)) := step (fun _ h => by subst hq; exact XS.i2s X.here hx rfl hd rfl h) k
theorem i2c (X : Stand p l e R s m args below meth c T locs cells slots) (hx : p.tables.exec = Jvm.exec) {x : Int32} (hd : decode c.code pc = .ok (.i2c, 1)) (hq : pc + 1 = q) (k : Ends p l e R s m args below meth c C S Q T (mkF m q Ls (.int (x.toUInt32.toUInt16.toUInt32.toInt32) :: st))) : Ends p l e R s m args below meth c C S Q T (mkF m pc Ls (.int x :: st)) := step (fun _ h => by subst hq; exact XS.i2c X.here hx rfl hd rfl h) k
theorem lcmp (X : Stand p l e R s m args below meth c T locs cells slots) (hx : p.tables.exec = Jvm.exec) {x y : Int64} (hd : decode c.code pc = .ok (.lcmp, 1)) (hq : pc + 1 = q) (k : Ends p l e R s m args below meth c C S Q T (mkF m q Ls (.int (lcmpW x y) :: st))) : Ends p l e R s m args below meth c C S Q T (mkF m pc Ls (.long y :: .long x :: st)) := step (fun _ h => by subst hq; exact XS.lcmp X.here hx rfl hd rfl h) k
theorem dup (X : Stand p l e R s m args below meth c T locs cells slots) (hx : p.tables.exec = Jvm.exec) {v : Value} (hc : v.category = 1) (hd : decode c.code pc = .ok (.dup, 1)) (hq : pc + 1 = q) (k : Ends p l e R s m args below meth c C S Q T (mkF m q Ls (v :: v :: st))) : Ends p l e R s m args below meth c C S Q T (mkF m pc Ls (v :: st)) := step (fun _ h => by subst hq; exact XS.dup X.here hx rfl hd rfl hc h) k
theorem pop (X : Stand p l e R s m args below meth c T locs cells slots) (hx : p.tables.exec = Jvm.exec) {v : Value} (hc : v.category = 1) (hd : decode c.code pc = .ok (.pop, 1)) (hq : pc + 1 = q) (k : Ends p l e R s m args below meth c C S Q T (mkF m q Ls (st))) : Ends p l e R s m args below meth c C S Q T (mkF m pc Ls (v :: st)) := step (fun _ h => by subst hq; exact XS.pop X.here hx rfl hd rfl hc h) k
theorem iinc (X : Stand p l e R s m args below meth c T locs cells slots) (hx : p.tables.exec = Jvm.exec) {k0 : Nat} {cst : Int} {x v : Int32} {l' : Array Slot} (hl : Ls[k0]? = some (.val (.int x))) (hv : x + Int32.ofInt cst = v) (hl' : storeLocals Ls k0 (.int v) = some l') (hd : decode c.code pc = .ok (.iinc k0 cst, 3)) (hq : pc + 3 = q) (k : Ends p l e R s m args below meth c C S Q T (mkF m q l' (st))) : Ends p l e R s m args below meth c C S Q T (mkF m pc Ls (st)) := step (fun _ h => by subst hq; exact XS.iinc X.here hx rfl hd hl (by rw [hv]; exact hl') h) k
theorem goto (X : Stand p l e R s m args below meth c T locs cells slots) (hx : p.tables.exec = Jvm.exec) {o : Int}  (hd : decode c.code pc = .ok (.goto o, 3)) (ho : 0 ≤ (pc : Int) + o) (hq : ((pc : Int) + o).toNat = q) (k : Ends p l e R s m args below meth c C S Q T (mkF m q Ls (st))) : Ends p l e R s m args below meth c C S Q T (mkF m pc Ls (st)) := step (fun _ h => XS.goto X.here hx rfl rfl hd ho hq h) k
theorem ifYes (X : Stand p l e R s m args below meth c T locs cells slots) (hx : p.tables.exec = Jvm.exec) {o : Int} {cd : ClassFile.Cond} {x : Int32} (hc : ifCond.holds cd x = true) (hd : decode c.code pc = .ok (.ifCond cd o, 3)) (ho : 0 ≤ (pc : Int) + o) (hq : ((pc : Int) + o).toNat = q) (k : Ends p l e R s m args below meth c C S Q T (mkF m q Ls (st))) : Ends p l e R s m args below meth c C S Q T (mkF m pc Ls (.int x :: st)) := step (fun _ h => XS.ifYes X.here hx rfl rfl hd rfl hc ho hq h) k
theorem icmpYes (X : Stand p l e R s m args below meth c T locs cells slots) (hx : p.tables.exec = Jvm.exec) {o : Int} {cd : ClassFile.Cond} {x y : Int32} (hc : if_icmp.holds cd x y = true) (hd : decode c.code pc = .ok (.if_icmp cd o, 3)) (ho : 0 ≤ (pc : Int) + o) (hq : ((pc : Int) + o).toNat = q) (k : Ends p l e R s m args below meth c C S Q T (mkF m q Ls (st))) : Ends p l e R s m args below meth c C S Q T (mkF m pc Ls (.int y :: .int x :: st)) := step (fun _ h => XS.icmpYes X.here hx rfl rfl hd rfl hc ho hq h) k
theorem ifnullYes (X : Stand p l e R s m args below meth c T locs cells slots) (hx : p.tables.exec = Jvm.exec) {o : Int}  (hd : decode c.code pc = .ok (.ifnull o, 3)) (ho : 0 ≤ (pc : Int) + o) (hq : ((pc : Int) + o).toNat = q) (k : Ends p l e R s m args below meth c C S Q T (mkF m q Ls (st))) : Ends p l e R s m args below meth c C S Q T (mkF m pc Ls (.null :: st)) := step (fun _ h => XS.ifnullYes X.here hx rfl rfl hd rfl ho hq h) k
theorem ifnonnullYes (X : Stand p l e R s m args below meth c T locs cells slots) (hx : p.tables.exec = Jvm.exec) {o : Int} {b : Addr} (hd : decode c.code pc = .ok (.ifnonnull o, 3)) (ho : 0 ≤ (pc : Int) + o) (hq : ((pc : Int) + o).toNat = q) (k : Ends p l e R s m args below meth c C S Q T (mkF m q Ls (st))) : Ends p l e R s m args below meth c C S Q T (mkF m pc Ls (.ref b :: st)) := step (fun _ h => XS.ifnonnullYes X.here hx rfl rfl hd rfl ho hq h) k
theorem ifNo (X : Stand p l e R s m args below meth c T locs cells slots) (hx : p.tables.exec = Jvm.exec) {o : Int} {cd : ClassFile.Cond} {x : Int32} (hc : ifCond.holds cd x = false) (hd : decode c.code pc = .ok (.ifCond cd o, 3)) (hq : pc + 3 = q) (k : Ends p l e R s m args below meth c C S Q T (mkF m q Ls (st))) : Ends p l e R s m args below meth c C S Q T (mkF m pc Ls (.int x :: st)) := step (fun _ h => by subst hq; exact XS.ifNo X.here hx rfl hd rfl hc h) k
theorem icmpNo (X : Stand p l e R s m args below meth c T locs cells slots) (hx : p.tables.exec = Jvm.exec) {o : Int} {cd : ClassFile.Cond} {x y : Int32} (hc : if_icmp.holds cd x y = false) (hd : decode c.code pc = .ok (.if_icmp cd o, 3)) (hq : pc + 3 = q) (k : Ends p l e R s m args below meth c C S Q T (mkF m q Ls (st))) : Ends p l e R s m args below meth c C S Q T (mkF m pc Ls (.int y :: .int x :: st)) := step (fun _ h => by subst hq; exact XS.icmpNo X.here hx rfl hd rfl hc h) k
theorem ifnullNo (X : Stand p l e R s m args below meth c T locs cells slots) (hx : p.tables.exec = Jvm.exec) {o : Int} {b : Addr} (hd : decode c.code pc = .ok (.ifnull o, 3)) (hq : pc + 3 = q) (k : Ends p l e R s m args below meth c C S Q T (mkF m q Ls (st))) : Ends p l e R s m args below meth c C S Q T (mkF m pc Ls (.ref b :: st)) := step (fun _ h => by subst hq; exact XS.ifnullNo X.here hx rfl hd rfl h) k
theorem ifnonnullNo (X : Stand p l e R s m args below meth c T locs cells slots) (hx : p.tables.exec = Jvm.exec) {o : Int} (hd : decode c.code pc = .ok (.ifnonnull o, 3)) (hq : pc + 3 = q) (k : Ends p l e R s m args below meth c C S Q T (mkF m q Ls (st))) : Ends p l e R s m args below meth c C S Q T (mkF m pc Ls (.null :: st)) := step (fun _ h => by subst hq; exact XS.ifnonnullNo X.here hx rfl hd rfl h) k
theorem acmp (X : Stand p l e R s m args below meth c T locs cells slots) (hx : p.tables.exec = Jvm.exec) {o : Int} {cd : ACond} {x y : Value} (h1 : x.isRef = true) (h2 : y.isRef = true) {same : Bool} (hs : decide (x = y) = same) (hd : decode c.code pc = .ok (.if_acmp cd o, 3)) (ho : 0 ≤ (pc : Int) + o) (hq : q = if acV cd same = true then ((pc : Int) + o).toNat else pc + 3) (k : Ends p l e R s m args below meth c C S Q T (mkF m q Ls st)) : Ends p l e R s m args below meth c C S Q T (mkF m pc Ls (y :: x :: st)) := step (fun _ h => Jvm.RoadKit.acmp X hx rfl h1 h2 rfl hd rfl hs ho hq h) k
theorem dloadN (X : Stand p l e R s m args below meth c T locs cells slots) (hx : p.tables.exec = Jvm.exec) {k0 : Fin 4} {v : UInt64} (hl : Ls[k0.val]? = some (.val (.double v))) (hd : decode c.code pc = .ok (.dload_n k0, 1)) (hq : pc + 1 = q) (k : Ends p l e R s m args below meth c C S Q T (mkF m q Ls (.double v :: st))) : Ends p l e R s m args below meth c C S Q T (mkF m pc Ls (st)) := step (fun _ h => by subst hq; exact XS.dloadN X.here hx rfl hd hl h) k
theorem dload (X : Stand p l e R s m args below meth c T locs cells slots) (hx : p.tables.exec = Jvm.exec) {k0 : Nat} {v : UInt64} (hl : Ls[k0]? = some (.val (.double v))) (hd : decode c.code pc = .ok (.dload k0, 2)) (hq : pc + 2 = q) (k : Ends p l e R s m args below meth c C S Q T (mkF m q Ls (.double v :: st))) : Ends p l e R s m args below meth c C S Q T (mkF m pc Ls (st)) := step (fun _ h => by subst hq; exact XS.dload X.here hx rfl hd hl h) k
theorem dstoreN (X : Stand p l e R s m args below meth c T locs cells slots) (hx : p.tables.exec = Jvm.exec) {k0 : Fin 4} {v : UInt64} {l' : Array Slot} (hl : storeLocals Ls k0.val (.double v) = some l') (hd : decode c.code pc = .ok (.dstore_n k0, 1)) (hq : pc + 1 = q) (k : Ends p l e R s m args below meth c C S Q T (mkF m q l' (st))) : Ends p l e R s m args below meth c C S Q T (mkF m pc Ls (.double v :: st)) := step (fun _ h => by subst hq; exact XS.dstoreN X.here hx rfl hd rfl hl h) k
theorem dstore (X : Stand p l e R s m args below meth c T locs cells slots) (hx : p.tables.exec = Jvm.exec) {k0 : Nat} {v : UInt64} {l' : Array Slot} (hl : storeLocals Ls k0 (.double v) = some l') (hd : decode c.code pc = .ok (.dstore k0, 2)) (hq : pc + 2 = q) (k : Ends p l e R s m args below meth c C S Q T (mkF m q l' (st))) : Ends p l e R s m args below meth c C S Q T (mkF m pc Ls (.double v :: st)) := step (fun _ h => by subst hq; exact XS.dstore X.here hx rfl hd rfl hl h) k
theorem i2d (X : Stand p l e R s m args below meth c T locs cells slots) (hx : p.tables.exec = Jvm.exec) {x : Int32} (hd : decode c.code pc = .ok (.i2d, 1)) (hq : pc + 1 = q) (k : Ends p l e R s m args below meth c C S Q T (mkF m q Ls (.double (FP.i2d x) :: st))) : Ends p l e R s m args below meth c C S Q T (mkF m pc Ls (.int x :: st)) := step (fun _ h => by subst hq; exact XS.i2dS X.here hx rfl hd rfl rfl h) k
theorem b53_i (x : Int32) : B53 x.toInt64 := by
  have h := rng32 x
  unfold B53; rw [c_i2l]
  exact ⟨Int.lt_of_lt_of_le (by decide) h.1, Int.lt_trans h.2 (by decide)⟩
theorem dcmp_i (x y : Int32) (o : CmpOp) : cmpValue (FP.dcmp (FP.i2d x) (FP.i2d y)) o = lcmpW x.toInt64 y.toInt64 := by
  rw [i2d_w, i2d_w]; exact dcmpV_w (b53_i x) (b53_i y) o
theorem dcmpI (X : Stand p l e R s m args below meth c T locs cells slots) (hx : p.tables.exec = Jvm.exec) {o : CmpOp} {x y : Int32} (hd : decode c.code pc = .ok (.dcmp o, 1)) (hq : pc + 1 = q) (k : Ends p l e R s m args below meth c C S Q T (mkF m q Ls (.int (lcmpW x.toInt64 y.toInt64) :: st))) : Ends p l e R s m args below meth c C S Q T (mkF m pc Ls (.double (FP.i2d y) :: .double (FP.i2d x) :: st)) := step (fun _ h => by subst hq; exact XS.dcmpS X.here hx rfl hd rfl (dcmp_i x y o) h) k
theorem ldc2Long (X : Stand p l e R s m args below meth c T locs cells slots) (hx : p.tables.exec = Jvm.exec) {Z : State} {a0 : Array Value} (hZ : Z.Warmed39 s.vm) {own : String} (hown : s.vm.findClass own = some m.cls) {index : Nat} {v : Int64} (w : (Jvm.Cond.constantLong own index v).before a0 Z = true) (hd : decode c.code pc = .ok (.ldc2_w index, 3)) (hq : pc + 3 = q) (k : Ends p l e R s m args below meth c C S Q T (mkF m q Ls (.long v :: st))) : Ends p l e R s m args below meth c C S Q T (mkF m pc Ls st) := step (fun t h => by subst hq; exact X.ldc2Long hx hown (mvT hZ w) (g := mkF m pc Ls st) rfl hd t h) k
theorem ldcInt (X : Stand p l e R s m args below meth c T locs cells slots) (hx : p.tables.exec = Jvm.exec) {Z : State} {a0 : Array Value} (hZ : Z.Warmed39 s.vm) {own : String} (hown : s.vm.findClass own = some m.cls) {index : Nat} {v : Int32} (w : (Jvm.Cond.constant own index v).before a0 Z = true) (hd : decode c.code pc = .ok (.ldc index, 2)) (hq : pc + 2 = q) (k : Ends p l e R s m args below meth c C S Q T (mkF m q Ls (.int v :: st))) : Ends p l e R s m args below meth c C S Q T (mkF m pc Ls st) := step (fun t h => by subst hq; exact X.ldcInt hx hown (mvT hZ w) (g := mkF m pc Ls st) rfl hd t h) k
theorem retZ (X : Stand p l e R s m args below meth c T locs cells slots) (hx : p.tables.exec = Jvm.exec) {z : Int32} {t : FieldType} (hret : meth.sig.returnType = some t) (ht : t = .boolean ∨ t = .byte ∨ t = .char ∨ t = .short) (hd : decode c.code pc = .ok (.ireturn, 1)) (hQ : Q (some (.int (nar t z))) T.heap locs) (hc : cells ≤ C) (hs : slots ≤ S) : Ends p l e R s m args below meth c C S Q T (mkF m pc Ls (.int z :: st)) :=
  ⟨T, locs, cells, slots, _, X, hQ, hc, hs, (fun h => by rw [hret] at h; cases h), fun fs hl => retN X hx hret ht hd hl⟩
theorem retG (X : Stand p l e R s m args below meth c T locs cells slots) (hx : p.tables.exec = Jvm.exec) {w : Value} {t : FieldType} {i : Instr} (hret : meth.sig.returnType = some t) (hn : narrow t w = w)
    (hi : (i = .ireturn ∧ (t = .int ∨ t = .boolean ∨ t = .byte ∨ t = .char ∨ t = .short) ∧ ∃ z, w = .int z) ∨ (i = .lreturn ∧ t = .long ∧ ∃ z, w = .long z) ∨ (i = .dreturn ∧ t = .double ∧ ∃ z, w = .double z) ∨ (i = .freturn ∧ t = .float ∧ ∃ z, w = .float z) ∨ (i = .areturn ∧ t.isReference = true ∧ w.isRef = true)) (hd : decode c.code pc = .ok (i, 1)) (hQ : Q (some w) T.heap locs) (hc : cells ≤ C) (hs : slots ≤ S) : Ends p l e R s m args below meth c C S Q T (mkF m pc Ls (w :: st)) :=
  ⟨T, locs, cells, slots, _, X, hQ, hc, hs, (fun h => by rw [hret] at h; cases h), fun fs hl => retOut X hx hret hn hi hd hl⟩
theorem retI (X : Stand p l e R s m args below meth c T locs cells slots) (hx : p.tables.exec = Jvm.exec) {z : Int32} (hret : meth.sig.returnType = some .int) (hd : decode c.code pc = .ok (.ireturn, 1)) (hQ : Q (some (.int z)) T.heap locs) (hc : cells ≤ C) (hs : slots ≤ S) : Ends p l e R s m args below meth c C S Q T (mkF m pc Ls (.int z :: st)) := retG X hx hret rfl (Or.inl ⟨rfl, Or.inl rfl, z, rfl⟩) hd hQ hc hs
theorem retL (X : Stand p l e R s m args below meth c T locs cells slots) (hx : p.tables.exec = Jvm.exec) {z : Int64} (hret : meth.sig.returnType = some .long) (hd : decode c.code pc = .ok (.lreturn, 1)) (hQ : Q (some (.long z)) T.heap locs) (hc : cells ≤ C) (hs : slots ≤ S) : Ends p l e R s m args below meth c C S Q T (mkF m pc Ls (.long z :: st)) := retG X hx hret rfl (Or.inr (Or.inl ⟨rfl, rfl, z, rfl⟩)) hd hQ hc hs
theorem retA (X : Stand p l e R s m args below meth c T locs cells slots) (hx : p.tables.exec = Jvm.exec) {v : Value} {t : FieldType} (hret : meth.sig.returnType = some t) (ht : t.isReference = true) (hv : v.isRef = true) (hn : narrow t v = v) (hd : decode c.code pc = .ok (.areturn, 1)) (hQ : Q (some v) T.heap locs) (hc : cells ≤ C) (hs : slots ≤ S) : Ends p l e R s m args below meth c C S Q T (mkF m pc Ls (v :: st)) := retG X hx hret hn (Or.inr (Or.inr (Or.inr (Or.inr ⟨rfl, ht, hv⟩)))) hd hQ hc hs
theorem retV (X : Stand p l e R s m args below meth c T locs cells slots) (hx : p.tables.exec = Jvm.exec) (hret : meth.sig.returnType = none) (hd : decode c.code pc = .ok (.return_, 1)) (hQ : Q none T.heap locs) (hc : cells ≤ C) (hs : slots ≤ S) : Ends p l e R s m args below meth c C S Q T (mkF m pc Ls []) :=
  ⟨T, locs, cells, slots, none, X, hQ, hc, hs, (fun _ => rfl), fun fs hl => X.returnOut hx hret hd hl⟩
theorem callS (X : Stand p l e R s m args below meth c T locs cells slots) (hx : p.tables.exec = Jvm.exec) {Z : State} {a0 : Array Value} (hZ : Z.Warmed39 s.vm) {own : String} (hown : s.vm.findClass own = some m.cls) {index : Nat} {h : Heap} (eT : T.heap = h) {y : MethodName} {bytes : ByteArray} {maxL : Nat} {ret : Option FieldType} {rm : Room} {Qc : Option Value → Heap → List Loc → Prop} (w1 : (Jvm.Cond.methodLink own index y).before a0 Z = true) (w2 : (Jvm.Cond.static y).before a0 Z = true) (w3 : (Jvm.Cond.initialized y.cls).before a0 Z = true) (w4 : (Jvm.Cond.code y bytes maxL ret).before a0 Z = true) (hy : y.cls ≠ "java/lang/invoke/MethodHandle" ∧ y.cls ≠ "java/lang/invoke/VarHandle")
    {argsL : List Value} (hM : Pays l Z y bytes maxL ret [] rm argsL.toArray h Qc) (hsize : Ls.size = c.maxLocals) {ps : List FieldType} {rt : Option FieldType} (hsig : parseMethodDescriptor y.desc = some ⟨ps, rt⟩) (hlen : argsL.length = ps.length) {W : Nat} (hW : (rest.map fun v => v.category).sum ≤ W) (hf : rm.frames + 1 ≤ R.frames) (hl : W + (maxL + 11) + rm.locals ≤ R.locals) (hcc : cells + rm.cells ≤ R.cells) (hss : slots + rm.slots ≤ R.slots) (hst : st = argsL.reverse ++ rest) (hd : decode c.code pc = .ok (.invokestatic index, 3)) (hq : pc + 3 = q) (k : ∀ (T' : State) (v : Option Value) (L : List Loc), Stand p l e R s m args below meth c T' (locs ++ L) (cells + rm.cells) (slots + rm.slots) → Qc v T'.heap L → Ends p l e R s m args below meth c C S Q T' (mkF m q Ls (v.toList ++ rest))) : Ends p l e R s m args below meth c C S Q T (mkF m pc Ls st) := by
  obtain ⟨v, _, ⟨T', L', k', n'⟩, -, X', ⟨L, hQ, l1, y1, z1⟩, stp⟩ := Jvm.LawKit.callS X hx (y := y) hown (mvT hZ w1) (mvT hZ w2) (mvT hZ w3) (mvT hZ w4) hy (backOf (W := W) hM hZ w4 w3 hf hl) (g := mkF m pc Ls st) rfl hsize (argsL := argsL) (rest := rest) (lenOf hsig hlen) hst (by show 2 * 0 + _ ≤ _; omega) hd (fun _ _ => ⟨rfl, eT, hcc, hss⟩)
  dsimp only [Pt.U, Pt.locs, Pt.cells, Pt.slots] at X' l1 y1 z1 stp hQ
  subst l1 y1 z1 hq
  exact step stp (k T' v L X' hQ)
theorem callI (X : Stand p l e R s m args below meth c T locs cells slots) (hx : p.tables.exec = Jvm.exec) {Z : State} {a0 : Array Value} (hZ : Z.Warmed39 s.vm) {own : String} (hown : s.vm.findClass own = some m.cls) {index : Nat} {h : Heap} (eT : T.heap = h) {y : MethodName} {bytes : ByteArray} {maxL : Nat} {rm : Room} {Qc : Option Value → Heap → List Loc → Prop} (hy1 : y.name = "<init>") (w1 : (Jvm.Cond.methodLink own index y).before a0 Z = true) (w2 : (Jvm.Cond.instanceMethod y).before a0 Z = true) (w3 : (Jvm.Cond.initialized y.cls).before a0 Z = true) (w4 : (Jvm.Cond.code y bytes maxL none).before a0 Z = true) (hy : y.cls ≠ "java/lang/invoke/MethodHandle" ∧ y.cls ≠ "java/lang/invoke/VarHandle")
    {a : Addr} {argsL : List Value} (hM : Pays l Z y bytes maxL none [] rm (Value.ref a :: argsL).toArray h Qc) (hsize : Ls.size = c.maxLocals) {ps : List FieldType} {rt : Option FieldType} (hsig : parseMethodDescriptor y.desc = some ⟨ps, rt⟩) (hlen : argsL.length = ps.length) {W : Nat} (hW : (rest.map fun v => v.category).sum ≤ W) (hf : rm.frames + 1 ≤ R.frames) (hl : W + (maxL + 11) + rm.locals ≤ R.locals) (hcc : cells + rm.cells ≤ R.cells) (hss : slots + rm.slots ≤ R.slots) (hst : st = argsL.reverse ++ .ref a :: rest) (hd : decode c.code pc = .ok (.invokespecial index, 3)) (hq : pc + 3 = q) (k : ∀ (T' : State) (v : Option Value) (L : List Loc), Stand p l e R s m args below meth c T' (locs ++ L) (cells + rm.cells) (slots + rm.slots) → Qc v T'.heap L → Ends p l e R s m args below meth c C S Q T' (mkF m q Ls (v.toList ++ rest))) : Ends p l e R s m args below meth c C S Q T (mkF m pc Ls st) := by
  obtain ⟨v, _, ⟨T', L', k', n'⟩, -, X', ⟨L, hQ, l1, y1, z1⟩, stp⟩ := X.specialBack hx (y := y) hy1 hown (mvT hZ w1) (mvT hZ w2) (mvT hZ w4) hy (backOf (W := W) hM hZ w4 w3 hf hl) (g := mkF m pc Ls st) rfl hsize (Steps.refl _) (a := a) (argsL := argsL) (rest := rest) (lenOf hsig hlen) hst (by show 2 * 0 + _ ≤ _; omega) hd (fun _ _ => ⟨rfl, eT, hcc, hss⟩)
  dsimp only [Pt.U, Pt.locs, Pt.cells, Pt.slots] at X' l1 y1 z1 stp hQ
  subst l1 y1 z1 hq
  exact step (fun _ h => stp.trans h) (k T' v L X' hQ)
theorem callV (X : Stand p l e R s m args below meth c T locs cells slots) (hx : p.tables.exec = Jvm.exec) {Z : State} {a0 : Array Value} (hZ : Z.Warmed39 s.vm) {own : String} (hown : s.vm.findClass own = some m.cls) {index : Nat} {h : Heap} (eT : T.heap = h) {y z : MethodName} {K : String} {bytes : ByteArray} {maxL : Nat} {ret : Option FieldType} {rm : Room} {Qc : Option Value → Heap → List Loc → Prop} (w1 : (Jvm.Cond.methodLink own index y).before a0 Z = true) (w2 : (Jvm.Cond.declares y).before a0 Z = true) (hnf : NotFace s y) (w5 : (Jvm.Cond.selects K y z).before a0 Z = true) (w6 : (Jvm.Cond.instanceMethod z).before a0 Z = true) (w3 : (Jvm.Cond.initialized z.cls).before a0 Z = true) (w4 : (Jvm.Cond.code z bytes maxL ret).before a0 Z = true) (hy : y.cls ≠ "java/lang/invoke/MethodHandle" ∧ y.cls ≠ "java/lang/invoke/VarHandle")
    {a : Addr} (E : Exa Z h a K) {argsL : List Value} (hM : Pays l Z z bytes maxL ret [] rm (Value.ref a :: argsL).toArray h Qc) (hsize : Ls.size = c.maxLocals) {ps : List FieldType} {rt : Option FieldType} (hsig : parseMethodDescriptor y.desc = some ⟨ps, rt⟩) (hlen : argsL.length = ps.length) {W : Nat} (hW : (rest.map fun v => v.category).sum ≤ W) (hf : rm.frames + 1 ≤ R.frames) (hl : W + (maxL + 11) + rm.locals ≤ R.locals) (hcc : cells + rm.cells ≤ R.cells) (hss : slots + rm.slots ≤ R.slots) (hst : st = argsL.reverse ++ .ref a :: rest) (hd : decode c.code pc = .ok (.invokevirtual index, 3)) (hq : pc + 3 = q) (k : ∀ (T' : State) (v : Option Value) (L : List Loc), Stand p l e R s m args below meth c T' (locs ++ L) (cells + rm.cells) (slots + rm.slots) → Qc v T'.heap L → Ends p l e R s m args below meth c C S Q T' (mkF m q Ls (v.toList ++ rest))) : Ends p l e R s m args below meth c C S Q T (mkF m pc Ls st) := by
  obtain ⟨cq, kq, qa, qb, qc⟩ := isOf hZ eT E
  obtain ⟨v, _, ⟨T', L', k', n'⟩, -, X', ⟨L, hQ, l1, y1, z1⟩, stp⟩ := X.virtualBack hx (y := y) (z := z) hown (mvT hZ w1) (mvT hZ w2) hnf (mvT hZ w5) (mvT hZ w6) hy (backOf (W := W) hM hZ w4 w3 hf hl) qa qc (g := mkF m pc Ls st) rfl hsize (Steps.refl _) (argsL := argsL) (rest := rest) (lenOf hsig hlen) hst (by show 2 * 0 + _ ≤ _; omega) hd (fun _ _ => ⟨rfl, eT, hcc, hss⟩)
  dsimp only [Pt.U, Pt.locs, Pt.cells, Pt.slots] at X' l1 y1 z1 stp hQ
  subst l1 y1 z1 hq
  exact step (fun _ h => stp.trans h) (k T' v L X' hQ)
theorem pureK {T' : State} {v V : Option Value} {h : Heap} {L : List Loc} (X' : Stand p l e R s m args below meth c T' (locs ++ L) (cells + 0) (slots + 0)) (hQ : RetQ V h v T'.heap L) : Stand p l e R s m args below meth c T' locs cells slots ∧ T'.heap = h ∧ v = V := by
  obtain ⟨h1, h2, rfl⟩ := hQ
  rw [List.append_nil] at X'
  exact ⟨X', h2, h1⟩
theorem iteP {α : Type} {P : α → Prop} {c : Prop} [Decidable c] {a b : α} (h1 : P a) (h2 : P b) : P (if c then a else b) := by split <;> assumption
theorem cat_of {v : Value} (h : v.isRef = true) : v.category = 1 := by rcases ref_cases h with rfl | ⟨a, rfl⟩ <;> rfl
theorem c_t {cd : ClassFile.Cond} {x : Int32} {b : Bool} (h : if_icmp.holds cd x 0 = b) : ifCond.holds cd x = b := (if0 cd x).trans h
theorem Ext_trans {h0 h h' : Heap} (E : Ext h0 h) (E' : Ext h h') : Ext h0 h' := ⟨Nat.le_trans E.1 E'.1, fun a c q => E'.2 a c (E.2 a c q)⟩
theorem Ext_wr {h0 h h' : Heap} {a : Addr} {sl : Nat} {v : Value} (E : Ext h0 h) (W : Wr h h' a sl v) (q : h0.size ≤ a) : Ext h0 h' :=
  ⟨Nat.le_trans E.1 (Keep.of_wr W).1, fun b c r => (Keep.of_wr W).2.1 b c (E.2 b c r) (ninS (Nat.ne_of_lt (Nat.lt_of_lt_of_le (Array.getElem?_eq_some_iff.mp r).1 q)) nin0)⟩
theorem Ext_keep {h0 h h' : Heap} {ws : List Addr} (E : Ext h0 h) (K : Keep h h' ws) (q : ∀ x ∈ ws, h0.size ≤ x) : Ext h0 h' :=
  ⟨Nat.le_trans E.1 K.1, fun b c r => K.2.1 b c (E.2 b c r) fun z => absurd (Array.getElem?_eq_some_iff.mp r).1 (Nat.not_lt.mpr (q b z))⟩
theorem rr_t {a b : Addr} (h : a = b) : decide ((Value.ref a : Value) = .ref b) = true := decide_eq_true (congrArg Value.ref h)
theorem rr_f {a b : Addr} (h : ¬ a = b) : decide ((Value.ref a : Value) = .ref b) = false := decide_eq_false fun q => h (Value.ref.inj q)
theorem l_t {x y : Int64} (h : x < y) : lcmpW x y < 0 := (lw_lt x y).mpr h
theorem l_f {x y : Int64} (h : ¬ x < y) : ¬ lcmpW x y < 0 := fun q => h ((lw_lt x y).mp q)
theorem g_t {x y : Int64} (h : y < x) : 0 < lcmpW x y := (lw_gt x y).mpr h
theorem g_f {x y : Int64} (h : ¬ y < x) : ¬ 0 < lcmpW x y := fun q => h ((lw_gt x y).mp q)
theorem e_t {x y : Int64} (h : x = y) : lcmpW x y = 0 := (lw_eq x y).mpr h
theorem e_f {x y : Int64} (h : ¬ x = y) : ¬ lcmpW x y = 0 := fun q => h ((lw_eq x y).mp q)
end
end Jvm.EKit
namespace Jvm.Pilot.@@N@@
open Jvm Jvm.ClassFile Sem Op Lib Jvm.Free Jvm.Stand Jvm.LawKit Jvm.RoadKit Bundle Jvm.Pilot.@@N@@.Jvm.D Jvm.EKit
def own_max (x y : Int32) : Int32 := if x < y then y else x
theorem ef_rm1 (m : MethodId) (x0 : Int32) (x1 : Int32) : entryFrame m #[(.int x0), (.int x1)] 2 = mkF m 0 #[.val (.int x0), .val (.int x1)] [] := by first | (simp [entryFrame, mkF, argsToLocals, Value.category]; done) | rfl
theorem d1_0 : decode jdk_29_method_65_code 0 = .ok (.iload_n 0, 1) := by decide +kernel
theorem d1_1 : decode jdk_29_method_65_code 1 = .ok (.iload_n 1, 1) := by decide +kernel
theorem d1_2 : decode jdk_29_method_65_code 2 = .ok (.if_icmp .lt 7, 3) := by decide +kernel
theorem d1_9 : decode jdk_29_method_65_code 9 = .ok (.iload_n 1, 1) := by decide +kernel
theorem d1_10 : decode jdk_29_method_65_code 10 = .ok (.ireturn, 1) := by decide +kernel
theorem d1_5 : decode jdk_29_method_65_code 5 = .ok (.iload_n 0, 1) := by decide +kernel
theorem d1_6 : decode jdk_29_method_65_code 6 = .ok (.goto 4, 3) := by decide +kernel
set_option maxRecDepth 65536 in
set_option maxHeartbeats 40000000 in
theorem rm1 (l : Launch) (Z : State) (a0 : Array Value) (hw : ∀ d ∈ tables_1, d.before a0 Z = true) (ws : List Jvm.Cond) (p0 : Int32) (p1 : Int32) (h0 : Heap)  :
    Pays l Z (⟨"java/lang/Math", "max", "(II)I"⟩ : MethodName) jdk_29_method_65_code 2 (some .int) ws ({ frames := 0, cells := 0, slots := 0, locals := 0 } : Room) #[(.int p0), (.int p1)] h0 (RetQ (some (.int (own_max p0 p1))) h0) := by
  refine EKit.pays (Jvm.Free.JP.mathPlain rfl (by decide +kernel)) (fun m => ef_rm1 m p0 p1) ?_
  intro p e s m below meth c s₁ hx hby hml hZ hown hnm hret X0 e0 hs0
  refine EKit.iloadN X0 hx rfl (hb hby d1_0) (q := 1) rfl ?_
  refine EKit.iloadN X0 hx rfl (hb hby d1_1) (q := 2) rfl ?_
  by_cases h2 : p0 < p1
  · skip
    refine EKit.icmpYes X0 hx ((tlt h2).1) (hb hby d1_2) (by decide) (q := 9) (by decide) ?_
    refine EKit.iloadN X0 hx rfl (hb hby d1_9) (q := 10) rfl ?_
    exact EKit.retI X0 hx hret (hb hby d1_10) (⟨by simp [own_max, h2], e0, rfl⟩) (by decide) (by decide)
  · skip
    refine EKit.icmpNo X0 hx ((flt h2).1) (hb hby d1_2) (q := 5) rfl ?_
    refine EKit.iloadN X0 hx rfl (hb hby d1_5) (q := 6) rfl ?_
    refine EKit.goto X0 hx (hb hby d1_6) (by decide) (q := 10) (by decide) ?_
    exact EKit.retI X0 hx hret (hb hby d1_10) (⟨by simp [own_max, h2], e0, rfl⟩) (by decide) (by decide)
def own_fm (x y : Int32) : Int32 := if (x ^^^ y) < 0 then (if x % y = 0 then x % y else x % y + y) else x % y
theorem ef_rm3 (m : MethodId) (x0 : Int32) (x1 : Int32) : entryFrame m #[(.int x0), (.int x1)] 3 = mkF m 0 #[.val (.int x0), .val (.int x1), .unset] [] := by first | (simp [entryFrame, mkF, argsToLocals, Value.category]; done) | rfl
theorem d3_0 : decode jdk_29_method_50_code 0 = .ok (.iload_n 0, 1) := by decide +kernel
theorem d3_1 : decode jdk_29_method_50_code 1 = .ok (.iload_n 1, 1) := by decide +kernel
theorem d3_2 : decode jdk_29_method_50_code 2 = .ok (.irem, 1) := by decide +kernel
theorem d3_3 : decode jdk_29_method_50_code 3 = .ok (.istore_n 2, 1) := by decide +kernel
theorem d3_4 : decode jdk_29_method_50_code 4 = .ok (.iload_n 0, 1) := by decide +kernel
theorem d3_5 : decode jdk_29_method_50_code 5 = .ok (.iload_n 1, 1) := by decide +kernel
theorem d3_6 : decode jdk_29_method_50_code 6 = .ok (.ixor, 1) := by decide +kernel
theorem d3_7 : decode jdk_29_method_50_code 7 = .ok (.ifCond .ge 11, 3) := by decide +kernel
theorem d3_10 : decode jdk_29_method_50_code 10 = .ok (.iload_n 2, 1) := by decide +kernel
theorem d3_11 : decode jdk_29_method_50_code 11 = .ok (.ifCond .eq 7, 3) := by decide +kernel
theorem d3_18 : decode jdk_29_method_50_code 18 = .ok (.iload_n 2, 1) := by decide +kernel
theorem d3_19 : decode jdk_29_method_50_code 19 = .ok (.ireturn, 1) := by decide +kernel
theorem d3_14 : decode jdk_29_method_50_code 14 = .ok (.iload_n 2, 1) := by decide +kernel
theorem d3_15 : decode jdk_29_method_50_code 15 = .ok (.iload_n 1, 1) := by decide +kernel
theorem d3_16 : decode jdk_29_method_50_code 16 = .ok (.iadd, 1) := by decide +kernel
theorem d3_17 : decode jdk_29_method_50_code 17 = .ok (.ireturn, 1) := by decide +kernel
set_option maxRecDepth 65536 in
set_option maxHeartbeats 40000000 in
theorem rm3 (l : Launch) (Z : State) (a0 : Array Value) (hw : ∀ d ∈ tables_1, d.before a0 Z = true) (ws : List Jvm.Cond) (p0 : Int32) (p1 : Int32) (h0 : Heap) (hy : p1 ≠ 0) :
    Pays l Z (⟨"java/lang/Math", "floorMod", "(II)I"⟩ : MethodName) jdk_29_method_50_code 3 (some .int) ws ({ frames := 0, cells := 0, slots := 0, locals := 0 } : Room) #[(.int p0), (.int p1)] h0 (RetQ (some (.int (own_fm p0 p1))) h0) := by
  refine EKit.pays (Jvm.Free.JP.mathPlain rfl (by decide +kernel)) (fun m => ef_rm3 m p0 p1) ?_
  intro p e s m below meth c s₁ hx hby hml hZ hown hnm hret X0 e0 hs0
  refine EKit.iloadN X0 hx rfl (hb hby d3_0) (q := 1) rfl ?_
  refine EKit.iloadN X0 hx rfl (hb hby d3_1) (q := 2) rfl ?_
  refine EKit.irem X0 hx (hy) (hb hby d3_2) (q := 3) rfl ?_
  refine EKit.istoreN X0 hx (l' := #[.val (.int p0), .val (.int p1), .val (.int (p0 % p1))]) rfl (hb hby d3_3) (q := 4) rfl ?_
  refine EKit.iloadN X0 hx rfl (hb hby d3_4) (q := 5) rfl ?_
  refine EKit.iloadN X0 hx rfl (hb hby d3_5) (q := 6) rfl ?_
  refine EKit.ixor X0 hx  (hb hby d3_6) (q := 7) rfl ?_
  by_cases h7 : (p0 ^^^ p1) < (0 : Int32)
  · skip
    refine EKit.ifNo X0 hx (EKit.c_t (tlt h7).2.1) (hb hby d3_7) (q := 10) rfl ?_
    refine EKit.iloadN X0 hx rfl (hb hby d3_10) (q := 11) rfl ?_
    by_cases h11 : (p0 % p1) = (0 : Int32)
    · skip
      refine EKit.ifYes X0 hx (EKit.c_t (teq h11).1) (hb hby d3_11) (by decide) (q := 18) (by decide) ?_
      refine EKit.iloadN X0 hx rfl (hb hby d3_18) (q := 19) rfl ?_
      exact EKit.retI X0 hx hret (hb hby d3_19) (⟨by simp [own_fm, h7, h11], e0, rfl⟩) (by decide) (by decide)
    · skip
      refine EKit.ifNo X0 hx (EKit.c_t (feq h11).1) (hb hby d3_11) (q := 14) rfl ?_
      refine EKit.iloadN X0 hx rfl (hb hby d3_14) (q := 15) rfl ?_
      refine EKit.iloadN X0 hx rfl (hb hby d3_15) (q := 16) rfl ?_
      refine EKit.iadd X0 hx  (hb hby d3_16) (q := 17) rfl ?_
      exact EKit.retI X0 hx hret (hb hby d3_17) (⟨by simp [own_fm, h7, h11], e0, rfl⟩) (by decide) (by decide)
  · skip
    refine EKit.ifYes X0 hx (EKit.c_t (flt h7).2.1) (hb hby d3_7) (by decide) (q := 18) (by decide) ?_
    refine EKit.iloadN X0 hx rfl (hb hby d3_18) (q := 19) rfl ?_
    exact EKit.retI X0 hx hret (hb hby d3_19) (⟨by simp [own_fm, h7], e0, rfl⟩) (by decide) (by decide)
def own_s (n : Nat) (x : BitVec 32) : BitVec 32 := x ^^^ (x >>> n)
def own_mix1 (x : Int32) : Int32 := x ^^^ ((x.toUInt32 >>> ((16 : Int32) &&& 31).toUInt32).toInt32)
def own_mix2 (x : Int32) : Int32 := x ^^^ ((x.toUInt32 >>> ((13 : Int32) &&& 31).toUInt32).toInt32)
def own_mix (x : Int32) : Int32 := own_mix1 (own_mix2 (own_mix1 x * (-2048144789)) * (-1028477387))
theorem ef_rm2 (m : MethodId) (x0 : Int32) (x1 : Int32) : entryFrame m #[(.int x0), (.int x1)] 3 = mkF m 0 #[.val (.int x0), .val (.int x1), .unset] [] := by first | (simp [entryFrame, mkF, argsToLocals, Value.category]; done) | rfl
theorem pn_com_example_shardweave_shardweave_Exchange : plainName "com/example/shardweave/shardweave/Exchange" = true := by first | (simp [plainName, overriddenIn]; done) | decide +kernel
theorem d2_0 : decode prog_20_method_2_code 0 = .ok (.iload_n 0, 1) := by decide +kernel
theorem d2_1 : decode prog_20_method_2_code 1 = .ok (.iload_n 0, 1) := by decide +kernel
theorem d2_2 : decode prog_20_method_2_code 2 = .ok (.bipush 16, 2) := by decide +kernel
theorem d2_4 : decode prog_20_method_2_code 4 = .ok (.iushr, 1) := by decide +kernel
theorem d2_5 : decode prog_20_method_2_code 5 = .ok (.ixor, 1) := by decide +kernel
theorem d2_6 : decode prog_20_method_2_code 6 = .ok (.istore_n 2, 1) := by decide +kernel
theorem d2_7 : decode prog_20_method_2_code 7 = .ok (.iload_n 2, 1) := by decide +kernel
theorem d2_8 : decode prog_20_method_2_code 8 = .ok (.ldc 27, 2) := by decide +kernel
theorem d2_10 : decode prog_20_method_2_code 10 = .ok (.imul, 1) := by decide +kernel
theorem d2_11 : decode prog_20_method_2_code 11 = .ok (.istore_n 2, 1) := by decide +kernel
theorem d2_12 : decode prog_20_method_2_code 12 = .ok (.iload_n 2, 1) := by decide +kernel
theorem d2_13 : decode prog_20_method_2_code 13 = .ok (.iload_n 2, 1) := by decide +kernel
theorem d2_14 : decode prog_20_method_2_code 14 = .ok (.bipush 13, 2) := by decide +kernel
theorem d2_16 : decode prog_20_method_2_code 16 = .ok (.iushr, 1) := by decide +kernel
theorem d2_17 : decode prog_20_method_2_code 17 = .ok (.ixor, 1) := by decide +kernel
theorem d2_18 : decode prog_20_method_2_code 18 = .ok (.istore_n 2, 1) := by decide +kernel
theorem d2_19 : decode prog_20_method_2_code 19 = .ok (.iload_n 2, 1) := by decide +kernel
theorem d2_20 : decode prog_20_method_2_code 20 = .ok (.ldc 28, 2) := by decide +kernel
theorem d2_22 : decode prog_20_method_2_code 22 = .ok (.imul, 1) := by decide +kernel
theorem d2_23 : decode prog_20_method_2_code 23 = .ok (.istore_n 2, 1) := by decide +kernel
theorem d2_24 : decode prog_20_method_2_code 24 = .ok (.iload_n 2, 1) := by decide +kernel
theorem d2_25 : decode prog_20_method_2_code 25 = .ok (.iload_n 2, 1) := by decide +kernel
theorem d2_26 : decode prog_20_method_2_code 26 = .ok (.bipush 16, 2) := by decide +kernel
theorem d2_28 : decode prog_20_method_2_code 28 = .ok (.iushr, 1) := by decide +kernel
theorem d2_29 : decode prog_20_method_2_code 29 = .ok (.ixor, 1) := by decide +kernel
theorem d2_30 : decode prog_20_method_2_code 30 = .ok (.istore_n 2, 1) := by decide +kernel
theorem d2_31 : decode prog_20_method_2_code 31 = .ok (.iload_n 2, 1) := by decide +kernel
theorem d2_32 : decode prog_20_method_2_code 32 = .ok (.iload_n 1, 1) := by decide +kernel
theorem d2_33 : decode prog_20_method_2_code 33 = .ok (.invokestatic 29, 3) := by decide +kernel
theorem pd__II_I : parseMethodDescriptor "(II)I" = some ⟨[.int, .int], some .int⟩ := by decide +kernel
theorem d2_36 : decode prog_20_method_2_code 36 = .ok (.ireturn, 1) := by decide +kernel
set_option maxRecDepth 65536 in
set_option maxHeartbeats 40000000 in
theorem rm2 (l : Launch) (Z : State) (a0 : Array Value) (hw : ∀ d ∈ tables_1, d.before a0 Z = true) (ws : List Jvm.Cond) (p0 : Int32) (p1 : Int32) (h0 : Heap) (hy : p1 ≠ 0) :
    Pays l Z (⟨"com/example/shardweave/shardweave/Exchange", "bucketOf", "(II)I"⟩ : MethodName) prog_20_method_2_code 3 (some .int) ws ({ frames := 1, cells := 0, slots := 0, locals := 14 } : Room) #[(.int p0), (.int p1)] h0 (RetQ (some (.int (own_fm (own_mix p0) p1))) h0) := by
  refine EKit.pays (plainFor_of_name pn_com_example_shardweave_shardweave_Exchange) (fun m => ef_rm2 m p0 p1) ?_
  intro p e s m below meth c s₁ hx hby hml hZ hown hnm hret X0 e0 hs0
  refine EKit.iloadN X0 hx rfl (hb hby d2_0) (q := 1) rfl ?_
  refine EKit.iloadN X0 hx rfl (hb hby d2_1) (q := 2) rfl ?_
  refine EKit.bipush X0 hx (v := (16 : Int32)) rfl (hb hby d2_2) (q := 4) rfl ?_
  refine EKit.iushr X0 hx  (hb hby d2_4) (q := 5) rfl ?_
  refine EKit.ixor X0 hx  (hb hby d2_5) (q := 6) rfl ?_
  refine EKit.istoreN X0 hx (l' := #[.val (.int p0), .val (.int p1), .val (.int (p0 ^^^ ((p0.toUInt32 >>> ((16 : Int32) &&& 31).toUInt32).toInt32)))]) rfl (hb hby d2_6) (q := 7) rfl ?_
  refine EKit.iloadN X0 hx rfl (hb hby d2_7) (q := 8) rfl ?_
  refine EKit.ldcInt X0 hx hZ hown (hw _ (List.mem_of_getElem? (i := 9) rfl)) (hb hby d2_8) (q := 10) rfl ?_
  refine EKit.imul X0 hx  (hb hby d2_10) (q := 11) rfl ?_
  refine EKit.istoreN X0 hx (l' := #[.val (.int p0), .val (.int p1), .val (.int ((p0 ^^^ ((p0.toUInt32 >>> ((16 : Int32) &&& 31).toUInt32).toInt32)) * (-2048144789 : Int32)))]) rfl (hb hby d2_11) (q := 12) rfl ?_
  refine EKit.iloadN X0 hx rfl (hb hby d2_12) (q := 13) rfl ?_
  refine EKit.iloadN X0 hx rfl (hb hby d2_13) (q := 14) rfl ?_
  refine EKit.bipush X0 hx (v := (13 : Int32)) rfl (hb hby d2_14) (q := 16) rfl ?_
  refine EKit.iushr X0 hx  (hb hby d2_16) (q := 17) rfl ?_
  refine EKit.ixor X0 hx  (hb hby d2_17) (q := 18) rfl ?_
  refine EKit.istoreN X0 hx (l' := #[.val (.int p0), .val (.int p1), .val (.int (((p0 ^^^ ((p0.toUInt32 >>> ((16 : Int32) &&& 31).toUInt32).toInt32)) * (-2048144789 : Int32)) ^^^ ((((p0 ^^^ ((p0.toUInt32 >>> ((16 : Int32) &&& 31).toUInt32).toInt32)) * (-2048144789 : Int32)).toUInt32 >>> ((13 : Int32) &&& 31).toUInt32).toInt32)))]) rfl (hb hby d2_18) (q := 19) rfl ?_
  refine EKit.iloadN X0 hx rfl (hb hby d2_19) (q := 20) rfl ?_
  refine EKit.ldcInt X0 hx hZ hown (hw _ (List.mem_of_getElem? (i := 10) rfl)) (hb hby d2_20) (q := 22) rfl ?_
  refine EKit.imul X0 hx  (hb hby d2_22) (q := 23) rfl ?_
  refine EKit.istoreN X0 hx (l' := #[.val (.int p0), .val (.int p1), .val (.int ((((p0 ^^^ ((p0.toUInt32 >>> ((16 : Int32) &&& 31).toUInt32).toInt32)) * (-2048144789 : Int32)) ^^^ ((((p0 ^^^ ((p0.toUInt32 >>> ((16 : Int32) &&& 31).toUInt32).toInt32)) * (-2048144789 : Int32)).toUInt32 >>> ((13 : Int32) &&& 31).toUInt32).toInt32)) * (-1028477387 : Int32)))]) rfl (hb hby d2_23) (q := 24) rfl ?_
  refine EKit.iloadN X0 hx rfl (hb hby d2_24) (q := 25) rfl ?_
  refine EKit.iloadN X0 hx rfl (hb hby d2_25) (q := 26) rfl ?_
  refine EKit.bipush X0 hx (v := (16 : Int32)) rfl (hb hby d2_26) (q := 28) rfl ?_
  refine EKit.iushr X0 hx  (hb hby d2_28) (q := 29) rfl ?_
  refine EKit.ixor X0 hx  (hb hby d2_29) (q := 30) rfl ?_
  refine EKit.istoreN X0 hx (l' := #[.val (.int p0), .val (.int p1), .val (.int (((((p0 ^^^ ((p0.toUInt32 >>> ((16 : Int32) &&& 31).toUInt32).toInt32)) * (-2048144789 : Int32)) ^^^ ((((p0 ^^^ ((p0.toUInt32 >>> ((16 : Int32) &&& 31).toUInt32).toInt32)) * (-2048144789 : Int32)).toUInt32 >>> ((13 : Int32) &&& 31).toUInt32).toInt32)) * (-1028477387 : Int32)) ^^^ ((((((p0 ^^^ ((p0.toUInt32 >>> ((16 : Int32) &&& 31).toUInt32).toInt32)) * (-2048144789 : Int32)) ^^^ ((((p0 ^^^ ((p0.toUInt32 >>> ((16 : Int32) &&& 31).toUInt32).toInt32)) * (-2048144789 : Int32)).toUInt32 >>> ((13 : Int32) &&& 31).toUInt32).toInt32)) * (-1028477387 : Int32)).toUInt32 >>> ((16 : Int32) &&& 31).toUInt32).toInt32)))]) rfl (hb hby d2_30) (q := 31) rfl ?_
  refine EKit.iloadN X0 hx rfl (hb hby d2_31) (q := 32) rfl ?_
  refine EKit.iloadN X0 hx rfl (hb hby d2_32) (q := 33) rfl ?_
  refine EKit.callS X0 hx hZ hown e0 (y := (⟨"java/lang/Math", "floorMod", "(II)I"⟩ : MethodName)) (hw _ (List.mem_of_getElem? (i := 11) rfl)) (hw _ (List.mem_of_getElem? (i := 12) rfl)) (hw _ (List.mem_of_getElem? (i := 3) rfl)) (hw _ (List.mem_of_getElem? (i := 13) rfl)) (by decide) (argsL := [(.int (((((p0 ^^^ ((p0.toUInt32 >>> ((16 : Int32) &&& 31).toUInt32).toInt32)) * (-2048144789 : Int32)) ^^^ ((((p0 ^^^ ((p0.toUInt32 >>> ((16 : Int32) &&& 31).toUInt32).toInt32)) * (-2048144789 : Int32)).toUInt32 >>> ((13 : Int32) &&& 31).toUInt32).toInt32)) * (-1028477387 : Int32)) ^^^ ((((((p0 ^^^ ((p0.toUInt32 >>> ((16 : Int32) &&& 31).toUInt32).toInt32)) * (-2048144789 : Int32)) ^^^ ((((p0 ^^^ ((p0.toUInt32 >>> ((16 : Int32) &&& 31).toUInt32).toInt32)) * (-2048144789 : Int32)).toUInt32 >>> ((13 : Int32) &&& 31).toUInt32).toInt32)) * (-1028477387 : Int32)).toUInt32 >>> ((16 : Int32) &&& 31).toUInt32).toInt32))), (.int p1)]) (rm3 l Z a0 hw [] (((((p0 ^^^ ((p0.toUInt32 >>> ((16 : Int32) &&& 31).toUInt32).toInt32)) * (-2048144789 : Int32)) ^^^ ((((p0 ^^^ ((p0.toUInt32 >>> ((16 : Int32) &&& 31).toUInt32).toInt32)) * (-2048144789 : Int32)).toUInt32 >>> ((13 : Int32) &&& 31).toUInt32).toInt32)) * (-1028477387 : Int32)) ^^^ ((((((p0 ^^^ ((p0.toUInt32 >>> ((16 : Int32) &&& 31).toUInt32).toInt32)) * (-2048144789 : Int32)) ^^^ ((((p0 ^^^ ((p0.toUInt32 >>> ((16 : Int32) &&& 31).toUInt32).toInt32)) * (-2048144789 : Int32)).toUInt32 >>> ((13 : Int32) &&& 31).toUInt32).toInt32)) * (-1028477387 : Int32)).toUInt32 >>> ((16 : Int32) &&& 31).toUInt32).toInt32)) p1 h0 hy) (rest := []) (by rw [hml]; rfl) pd__II_I rfl (W := 0) (Nat.le_of_eq rfl) (by decide) (by decide) (by decide) (by decide) rfl (hb hby d2_33) (q := 36) rfl ?_
  intro T1 v1 L1 X1 hQ1
  obtain ⟨X1, e1, ev1⟩ := EKit.pureK X1 hQ1
  subst ev1
  show EKit.Ends p l e ({ frames := 1, cells := 0, slots := 0, locals := 14 } : Room) s m #[(.int p0), (.int p1)] below meth c ({ frames := 1, cells := 0, slots := 0, locals := 14 } : Room).cells ({ frames := 1, cells := 0, slots := 0, locals := 14 } : Room).slots (RetQ (some (.int (own_fm (own_mix p0) p1))) h0) T1 (mkF m 36 #[.val (.int p0), .val (.int p1), .val (.int (((((p0 ^^^ ((p0.toUInt32 >>> ((16 : Int32) &&& 31).toUInt32).toInt32)) * (-2048144789 : Int32)) ^^^ ((((p0 ^^^ ((p0.toUInt32 >>> ((16 : Int32) &&& 31).toUInt32).toInt32)) * (-2048144789 : Int32)).toUInt32 >>> ((13 : Int32) &&& 31).toUInt32).toInt32)) * (-1028477387 : Int32)) ^^^ ((((((p0 ^^^ ((p0.toUInt32 >>> ((16 : Int32) &&& 31).toUInt32).toInt32)) * (-2048144789 : Int32)) ^^^ ((((p0 ^^^ ((p0.toUInt32 >>> ((16 : Int32) &&& 31).toUInt32).toInt32)) * (-2048144789 : Int32)).toUInt32 >>> ((13 : Int32) &&& 31).toUInt32).toInt32)) * (-1028477387 : Int32)).toUInt32 >>> ((16 : Int32) &&& 31).toUInt32).toInt32)))] [(.int (own_fm (((((p0 ^^^ ((p0.toUInt32 >>> ((16 : Int32) &&& 31).toUInt32).toInt32)) * (-2048144789 : Int32)) ^^^ ((((p0 ^^^ ((p0.toUInt32 >>> ((16 : Int32) &&& 31).toUInt32).toInt32)) * (-2048144789 : Int32)).toUInt32 >>> ((13 : Int32) &&& 31).toUInt32).toInt32)) * (-1028477387 : Int32)) ^^^ ((((((p0 ^^^ ((p0.toUInt32 >>> ((16 : Int32) &&& 31).toUInt32).toInt32)) * (-2048144789 : Int32)) ^^^ ((((p0 ^^^ ((p0.toUInt32 >>> ((16 : Int32) &&& 31).toUInt32).toInt32)) * (-2048144789 : Int32)).toUInt32 >>> ((13 : Int32) &&& 31).toUInt32).toInt32)) * (-1028477387 : Int32)).toUInt32 >>> ((16 : Int32) &&& 31).toUInt32).toInt32)) p1))])
  exact EKit.retI X1 hx hret (hb hby d2_36) (⟨rfl, e1, rfl⟩) (by decide) (by decide)
def own_mod4 (x : Int64) : Int32 := ((x % 4 + 4) % 4).toInt32
theorem ef_rm4 (m : MethodId) (x0 : Int64) : entryFrame m #[(.long x0)] 2 = mkF m 0 #[.val (.long x0), .second] [] := by first | (simp [entryFrame, mkF, argsToLocals, Value.category]; done) | rfl
theorem pn_com_example_shardweave_shardweave_ExchangeBucketOfPinLaw : plainName "com/example/shardweave/shardweave/ExchangeBucketOfPinLaw" = true := by first | (simp [plainName, overriddenIn]; done) | decide +kernel
theorem d4_0 : decode method_2_code 0 = .ok (.lload_n 0, 1) := by decide +kernel
theorem d4_1 : decode method_2_code 1 = .ok (.ldc2_w 7, 3) := by decide +kernel
theorem d4_4 : decode method_2_code 4 = .ok (.lrem, 1) := by decide +kernel
theorem d4_5 : decode method_2_code 5 = .ok (.ldc2_w 7, 3) := by decide +kernel
theorem d4_8 : decode method_2_code 8 = .ok (.ladd, 1) := by decide +kernel
theorem d4_9 : decode method_2_code 9 = .ok (.ldc2_w 7, 3) := by decide +kernel
theorem d4_12 : decode method_2_code 12 = .ok (.lrem, 1) := by decide +kernel
theorem d4_13 : decode method_2_code 13 = .ok (.l2i, 1) := by decide +kernel
theorem d4_14 : decode method_2_code 14 = .ok (.ireturn, 1) := by decide +kernel
set_option maxRecDepth 65536 in
set_option maxHeartbeats 40000000 in
theorem rm4 (l : Launch) (Z : State) (a0 : Array Value) (hw : ∀ d ∈ tables_1, d.before a0 Z = true) (ws : List Jvm.Cond) (q0 : Int64) (h0 : Heap)  :
    Pays l Z (⟨"com/example/shardweave/shardweave/ExchangeBucketOfPinLaw", "mod4", "(J)I"⟩ : MethodName) method_2_code 2 (some .int) ws ({ frames := 0, cells := 0, slots := 0, locals := 0 } : Room) #[(.long q0)] h0 (RetQ (some (.int (own_mod4 q0))) h0) := by
  refine EKit.pays (plainFor_of_name pn_com_example_shardweave_shardweave_ExchangeBucketOfPinLaw) (fun m => ef_rm4 m q0) ?_
  intro p e s m below meth c s₁ hx hby hml hZ hown hnm hret X0 e0 hs0
  refine EKit.lloadN X0 hx rfl (hb hby d4_0) (q := 1) rfl ?_
  refine EKit.ldc2Long X0 hx hZ hown (hw _ (List.mem_of_getElem? (i := 18) rfl)) (hb hby d4_1) (q := 4) rfl ?_
  refine EKit.lrem X0 hx (by decide) (hb hby d4_4) (q := 5) rfl ?_
  refine EKit.ldc2Long X0 hx hZ hown (hw _ (List.mem_of_getElem? (i := 18) rfl)) (hb hby d4_5) (q := 8) rfl ?_
  refine EKit.ladd X0 hx  (hb hby d4_8) (q := 9) rfl ?_
  refine EKit.ldc2Long X0 hx hZ hown (hw _ (List.mem_of_getElem? (i := 18) rfl)) (hb hby d4_9) (q := 12) rfl ?_
  refine EKit.lrem X0 hx (by decide) (hb hby d4_12) (q := 13) rfl ?_
  refine EKit.l2i X0 hx  (hb hby d4_13) (q := 14) rfl ?_
  exact EKit.retI X0 hx hret (hb hby d4_14) (⟨rfl, e0, rfl⟩) (by decide) (by decide)
def own_un2 (y : Int32) : Int32 := y ^^^ (((y.toUInt32 >>> ((13 : Int32) &&& 31).toUInt32).toInt32) ^^^ ((y.toUInt32 >>> ((26 : Int32) &&& 31).toUInt32).toInt32))
def own_unmix (x : Int32) : Int32 := own_mix1 (own_un2 (own_mix1 x * 2127672349) * (-1513385405))
theorem ef_rm5 (m : MethodId) (x0 : Int32) : entryFrame m #[(.int x0)] 2 = mkF m 0 #[.val (.int x0), .unset] [] := by first | (simp [entryFrame, mkF, argsToLocals, Value.category]; done) | rfl
theorem d5_0 : decode method_3_code 0 = .ok (.iload_n 0, 1) := by decide +kernel
theorem d5_1 : decode method_3_code 1 = .ok (.iload_n 0, 1) := by decide +kernel
theorem d5_2 : decode method_3_code 2 = .ok (.bipush 16, 2) := by decide +kernel
theorem d5_4 : decode method_3_code 4 = .ok (.iushr, 1) := by decide +kernel
theorem d5_5 : decode method_3_code 5 = .ok (.ixor, 1) := by decide +kernel
theorem d5_6 : decode method_3_code 6 = .ok (.istore_n 1, 1) := by decide +kernel
theorem d5_7 : decode method_3_code 7 = .ok (.iload_n 1, 1) := by decide +kernel
theorem d5_8 : decode method_3_code 8 = .ok (.ldc 9, 2) := by decide +kernel
theorem d5_10 : decode method_3_code 10 = .ok (.imul, 1) := by decide +kernel
theorem d5_11 : decode method_3_code 11 = .ok (.istore_n 1, 1) := by decide +kernel
theorem d5_12 : decode method_3_code 12 = .ok (.iload_n 1, 1) := by decide +kernel
theorem d5_13 : decode method_3_code 13 = .ok (.iload_n 1, 1) := by decide +kernel
theorem d5_14 : decode method_3_code 14 = .ok (.bipush 13, 2) := by decide +kernel
theorem d5_16 : decode method_3_code 16 = .ok (.iushr, 1) := by decide +kernel
theorem d5_17 : decode method_3_code 17 = .ok (.iload_n 1, 1) := by decide +kernel
theorem d5_18 : decode method_3_code 18 = .ok (.bipush 26, 2) := by decide +kernel
theorem d5_20 : decode method_3_code 20 = .ok (.iushr, 1) := by decide +kernel
theorem d5_21 : decode method_3_code 21 = .ok (.ixor, 1) := by decide +kernel
theorem d5_22 : decode method_3_code 22 = .ok (.ixor, 1) := by decide +kernel
theorem d5_23 : decode method_3_code 23 = .ok (.istore_n 1, 1) := by decide +kernel
theorem d5_24 : decode method_3_code 24 = .ok (.iload_n 1, 1) := by decide +kernel
theorem d5_25 : decode method_3_code 25 = .ok (.ldc 10, 2) := by decide +kernel
theorem d5_27 : decode method_3_code 27 = .ok (.imul, 1) := by decide +kernel
theorem d5_28 : decode method_3_code 28 = .ok (.istore_n 1, 1) := by decide +kernel
theorem d5_29 : decode method_3_code 29 = .ok (.iload_n 1, 1) := by decide +kernel
theorem d5_30 : decode method_3_code 30 = .ok (.iload_n 1, 1) := by decide +kernel
theorem d5_31 : decode method_3_code 31 = .ok (.bipush 16, 2) := by decide +kernel
theorem d5_33 : decode method_3_code 33 = .ok (.iushr, 1) := by decide +kernel
theorem d5_34 : decode method_3_code 34 = .ok (.ixor, 1) := by decide +kernel
theorem d5_35 : decode method_3_code 35 = .ok (.istore_n 1, 1) := by decide +kernel
theorem d5_36 : decode method_3_code 36 = .ok (.iload_n 1, 1) := by decide +kernel
theorem d5_37 : decode method_3_code 37 = .ok (.ireturn, 1) := by decide +kernel
set_option maxRecDepth 65536 in
set_option maxHeartbeats 40000000 in
theorem rm5 (l : Launch) (Z : State) (a0 : Array Value) (hw : ∀ d ∈ tables_1, d.before a0 Z = true) (ws : List Jvm.Cond) (p0 : Int32) (h0 : Heap)  :
    Pays l Z (⟨"com/example/shardweave/shardweave/ExchangeBucketOfPinLaw", "unmix", "(I)I"⟩ : MethodName) method_3_code 2 (some .int) ws ({ frames := 0, cells := 0, slots := 0, locals := 0 } : Room) #[(.int p0)] h0 (RetQ (some (.int (own_unmix p0))) h0) := by
  refine EKit.pays (plainFor_of_name pn_com_example_shardweave_shardweave_ExchangeBucketOfPinLaw) (fun m => ef_rm5 m p0) ?_
  intro p e s m below meth c s₁ hx hby hml hZ hown hnm hret X0 e0 hs0
  refine EKit.iloadN X0 hx rfl (hb hby d5_0) (q := 1) rfl ?_
  refine EKit.iloadN X0 hx rfl (hb hby d5_1) (q := 2) rfl ?_
  refine EKit.bipush X0 hx (v := (16 : Int32)) rfl (hb hby d5_2) (q := 4) rfl ?_
  refine EKit.iushr X0 hx  (hb hby d5_4) (q := 5) rfl ?_
  refine EKit.ixor X0 hx  (hb hby d5_5) (q := 6) rfl ?_
  refine EKit.istoreN X0 hx (l' := #[.val (.int p0), .val (.int (p0 ^^^ ((p0.toUInt32 >>> ((16 : Int32) &&& 31).toUInt32).toInt32)))]) rfl (hb hby d5_6) (q := 7) rfl ?_
  refine EKit.iloadN X0 hx rfl (hb hby d5_7) (q := 8) rfl ?_
  refine EKit.ldcInt X0 hx hZ hown (hw _ (List.mem_of_getElem? (i := 24) rfl)) (hb hby d5_8) (q := 10) rfl ?_
  refine EKit.imul X0 hx  (hb hby d5_10) (q := 11) rfl ?_
  refine EKit.istoreN X0 hx (l' := #[.val (.int p0), .val (.int ((p0 ^^^ ((p0.toUInt32 >>> ((16 : Int32) &&& 31).toUInt32).toInt32)) * (2127672349 : Int32)))]) rfl (hb hby d5_11) (q := 12) rfl ?_
  refine EKit.iloadN X0 hx rfl (hb hby d5_12) (q := 13) rfl ?_
  refine EKit.iloadN X0 hx rfl (hb hby d5_13) (q := 14) rfl ?_
  refine EKit.bipush X0 hx (v := (13 : Int32)) rfl (hb hby d5_14) (q := 16) rfl ?_
  refine EKit.iushr X0 hx  (hb hby d5_16) (q := 17) rfl ?_
  refine EKit.iloadN X0 hx rfl (hb hby d5_17) (q := 18) rfl ?_
  refine EKit.bipush X0 hx (v := (26 : Int32)) rfl (hb hby d5_18) (q := 20) rfl ?_
  refine EKit.iushr X0 hx  (hb hby d5_20) (q := 21) rfl ?_
  refine EKit.ixor X0 hx  (hb hby d5_21) (q := 22) rfl ?_
  refine EKit.ixor X0 hx  (hb hby d5_22) (q := 23) rfl ?_
  refine EKit.istoreN X0 hx (l' := #[.val (.int p0), .val (.int (((p0 ^^^ ((p0.toUInt32 >>> ((16 : Int32) &&& 31).toUInt32).toInt32)) * (2127672349 : Int32)) ^^^ (((((p0 ^^^ ((p0.toUInt32 >>> ((16 : Int32) &&& 31).toUInt32).toInt32)) * (2127672349 : Int32)).toUInt32 >>> ((13 : Int32) &&& 31).toUInt32).toInt32) ^^^ ((((p0 ^^^ ((p0.toUInt32 >>> ((16 : Int32) &&& 31).toUInt32).toInt32)) * (2127672349 : Int32)).toUInt32 >>> ((26 : Int32) &&& 31).toUInt32).toInt32))))]) rfl (hb hby d5_23) (q := 24) rfl ?_
  refine EKit.iloadN X0 hx rfl (hb hby d5_24) (q := 25) rfl ?_
  refine EKit.ldcInt X0 hx hZ hown (hw _ (List.mem_of_getElem? (i := 25) rfl)) (hb hby d5_25) (q := 27) rfl ?_
  refine EKit.imul X0 hx  (hb hby d5_27) (q := 28) rfl ?_
  refine EKit.istoreN X0 hx (l' := #[.val (.int p0), .val (.int ((((p0 ^^^ ((p0.toUInt32 >>> ((16 : Int32) &&& 31).toUInt32).toInt32)) * (2127672349 : Int32)) ^^^ (((((p0 ^^^ ((p0.toUInt32 >>> ((16 : Int32) &&& 31).toUInt32).toInt32)) * (2127672349 : Int32)).toUInt32 >>> ((13 : Int32) &&& 31).toUInt32).toInt32) ^^^ ((((p0 ^^^ ((p0.toUInt32 >>> ((16 : Int32) &&& 31).toUInt32).toInt32)) * (2127672349 : Int32)).toUInt32 >>> ((26 : Int32) &&& 31).toUInt32).toInt32))) * (-1513385405 : Int32)))]) rfl (hb hby d5_28) (q := 29) rfl ?_
  refine EKit.iloadN X0 hx rfl (hb hby d5_29) (q := 30) rfl ?_
  refine EKit.iloadN X0 hx rfl (hb hby d5_30) (q := 31) rfl ?_
  refine EKit.bipush X0 hx (v := (16 : Int32)) rfl (hb hby d5_31) (q := 33) rfl ?_
  refine EKit.iushr X0 hx  (hb hby d5_33) (q := 34) rfl ?_
  refine EKit.ixor X0 hx  (hb hby d5_34) (q := 35) rfl ?_
  refine EKit.istoreN X0 hx (l' := #[.val (.int p0), .val (.int (((((p0 ^^^ ((p0.toUInt32 >>> ((16 : Int32) &&& 31).toUInt32).toInt32)) * (2127672349 : Int32)) ^^^ (((((p0 ^^^ ((p0.toUInt32 >>> ((16 : Int32) &&& 31).toUInt32).toInt32)) * (2127672349 : Int32)).toUInt32 >>> ((13 : Int32) &&& 31).toUInt32).toInt32) ^^^ ((((p0 ^^^ ((p0.toUInt32 >>> ((16 : Int32) &&& 31).toUInt32).toInt32)) * (2127672349 : Int32)).toUInt32 >>> ((26 : Int32) &&& 31).toUInt32).toInt32))) * (-1513385405 : Int32)) ^^^ ((((((p0 ^^^ ((p0.toUInt32 >>> ((16 : Int32) &&& 31).toUInt32).toInt32)) * (2127672349 : Int32)) ^^^ (((((p0 ^^^ ((p0.toUInt32 >>> ((16 : Int32) &&& 31).toUInt32).toInt32)) * (2127672349 : Int32)).toUInt32 >>> ((13 : Int32) &&& 31).toUInt32).toInt32) ^^^ ((((p0 ^^^ ((p0.toUInt32 >>> ((16 : Int32) &&& 31).toUInt32).toInt32)) * (2127672349 : Int32)).toUInt32 >>> ((26 : Int32) &&& 31).toUInt32).toInt32))) * (-1513385405 : Int32)).toUInt32 >>> ((16 : Int32) &&& 31).toUInt32).toInt32)))]) rfl (hb hby d5_35) (q := 36) rfl ?_
  refine EKit.iloadN X0 hx rfl (hb hby d5_36) (q := 37) rfl ?_
  exact EKit.retI X0 hx hret (hb hby d5_37) (⟨rfl, e0, rfl⟩) (by decide) (by decide)
theorem own_sh (x : Int32) (n : Nat) (h : n < 32) : ((x.toUInt32 >>> ((Int32.ofNat n) &&& 31).toUInt32).toInt32).toBitVec = x.toBitVec >>> n := by
  show x.toBitVec >>> (((Int32.ofNat n) &&& 31).toUInt32.toBitVec % 32) = x.toBitVec >>> n
  have e : (((Int32.ofNat n) &&& 31).toUInt32.toBitVec % 32).toNat = n := by
    show ((BitVec.ofNat 32 n &&& 31#32) % 32#32).toNat = n
    rw [BitVec.toNat_umod, BitVec.toNat_and, BitVec.toNat_ofNat, show (31#32).toNat = 2 ^ 5 - 1 from rfl, Nat.and_two_pow_sub_one_eq_mod, show (32#32).toNat = 32 from rfl]
    omega
  show x.toBitVec >>> (((Int32.ofNat n) &&& 31).toUInt32.toBitVec % 32).toNat = _
  rw [e]
theorem own_x16 (v : BitVec 32) : (v ^^^ v >>> 16) ^^^ ((v ^^^ v >>> 16) >>> 16) = v := by
  rw [BitVec.ushiftRight_xor_distrib, ← BitVec.shiftRight_add, BitVec.ushiftRight_eq_zero (by decide : 32 ≤ 16 + 16), BitVec.xor_zero, BitVec.xor_assoc, BitVec.xor_self, BitVec.xor_zero]
theorem own_x13 (v : BitVec 32) : (v ^^^ v >>> 13) ^^^ (((v ^^^ v >>> 13) >>> 13) ^^^ ((v ^^^ v >>> 13) >>> 26)) = v := by
  rw [BitVec.ushiftRight_xor_distrib, BitVec.ushiftRight_xor_distrib, ← BitVec.shiftRight_add, ← BitVec.shiftRight_add, BitVec.ushiftRight_eq_zero (by decide : 32 ≤ 13 + 26), BitVec.xor_zero]
  rw [show 13 + 13 = 26 from rfl, BitVec.xor_assoc (v >>> 13), BitVec.xor_self, BitVec.xor_zero, BitVec.xor_assoc, BitVec.xor_self, BitVec.xor_zero]
theorem own_b1 (x : Int32) : (own_mix1 x).toBitVec = x.toBitVec ^^^ x.toBitVec >>> 16 := by
  unfold own_mix1; rw [Int32.toBitVec_xor]; exact congrArg (fun z => x.toBitVec ^^^ z) (own_sh x 16 (by decide))
theorem own_b2 (x : Int32) : (own_mix2 x).toBitVec = x.toBitVec ^^^ x.toBitVec >>> 13 := by
  unfold own_mix2; rw [Int32.toBitVec_xor]; exact congrArg (fun z => x.toBitVec ^^^ z) (own_sh x 13 (by decide))
theorem own_b3 (x : Int32) : (own_un2 x).toBitVec = x.toBitVec ^^^ (x.toBitVec >>> 13 ^^^ x.toBitVec >>> 26) := by
  unfold own_un2; rw [Int32.toBitVec_xor, Int32.toBitVec_xor]
  have a1 : ((x.toUInt32 >>> ((13 : Int32) &&& 31).toUInt32).toInt32).toBitVec = x.toBitVec >>> 13 := own_sh x 13 (by decide)
  have a2 : ((x.toUInt32 >>> ((26 : Int32) &&& 31).toUInt32).toInt32).toBitVec = x.toBitVec >>> 26 := own_sh x 26 (by decide)
  rw [a1, a2]
theorem own_inv1 (x : Int32) : own_mix1 (own_mix1 x) = x := by
  apply Int32.toBitVec_inj.mp; rw [own_b1, own_b1]; exact own_x16 _
theorem own_inv2 (x : Int32) : own_un2 (own_mix2 x) = x := by
  apply Int32.toBitVec_inj.mp; rw [own_b3, own_b2]; exact own_x13 _
theorem own_unmix_mix (x : Int32) : own_unmix (own_mix x) = x := by
  unfold own_unmix own_mix
  rw [own_inv1, Int32.mul_assoc, show (-1028477387 : Int32) * 2127672349 = 1 from by decide +kernel, Int32.mul_one, own_inv2, Int32.mul_assoc, show (-2048144789 : Int32) * (-1513385405) = 1 from by decide +kernel, Int32.mul_one, own_inv1]
theorem own_tmod (x y : Int) (hy : 0 < y) : x % y = if x.tmod y < 0 then x.tmod y + y else x.tmod y := by
  have e : x = y * x.tdiv y + x.tmod y := (Int.mul_tdiv_add_tmod x y).symm
  have b1 : x.tmod y < y := Int.tmod_lt_of_pos x hy
  have b2 : -y < x.tmod y := by have := Int.tmod_lt_of_pos (-x) hy; rw [Int.neg_tmod] at this; omega
  have e2 : x % y = x.tmod y % y := by
    have z : (y * x.tdiv y + x.tmod y) % y = x.tmod y % y := by rw [Int.add_comm, Int.add_mul_emod_self_left]
    rw [← e] at z; exact z
  rw [e2]
  split
  · rw [← Int.add_emod_right, Int.emod_eq_of_lt (by omega) (by omega)]
  · exact Int.emod_eq_of_lt (by omega) b1
theorem own_fm_i (x y : Int32) (hy : 0 < y.toInt) : (own_fm x y).toInt = x.toInt % y.toInt := by
  have hs := c_xorS x y
  have e : (x % y).toInt = x.toInt.tmod y.toInt := Int32.toInt_mod x y
  have t := own_tmod x.toInt y.toInt hy
  have b1 : x.toInt.tmod y.toInt < y.toInt := Int.tmod_lt_of_pos _ hy
  have b2 : 0 ≤ x.toInt → 0 ≤ x.toInt.tmod y.toInt := fun h => Int.tmod_nonneg _ h
  have b3 : x.toInt < 0 → x.toInt.tmod y.toInt ≤ 0 := fun h => by have := Int.tmod_nonneg (a := -x.toInt) y.toInt (by omega); rw [Int.neg_tmod] at this; omega
  have b4 : -y.toInt < x.toInt.tmod y.toInt := by have := Int.tmod_lt_of_pos (-x.toInt) hy; rw [Int.neg_tmod] at this; omega
  have ea := c_iadd (x % y) y
  have ra := rng32 (x % y + y)
  have ry := rng32 y
  rw [t]
  clear t
  have ez : x % y = 0 ↔ x.toInt.tmod y.toInt = 0 := by rw [← e]; exact ⟨fun h => by rw [h]; rfl, fun h => Int32.toInt_inj.mp (h.trans (by rfl))⟩
  unfold own_fm
  simp only [Int32.lt_iff_toInt_lt, show (0 : Int32).toInt = 0 from rfl, ez]
  rw [e] at ea
  generalize x.toInt.tmod y.toInt = r at *
  generalize (x ^^^ y).toInt = w at *
  by_cases c1 : w < 0
  · rw [if_pos c1]
    by_cases c2 : r = 0
    · rw [if_pos c2, e, c2]; rfl
    · rw [if_neg c2]
      have z : (x % y + y).toInt = r + y.toInt := by
        generalize (x % y + y).toInt = A at *
        have : r < 0 ∨ 0 < r := by omega
        rcases Int.lt_or_le x.toInt 0 with q | q
        · have := b3 q; omega
        · have := b2 q; have := hs.2.2.2 q (by omega); omega
      have hneg : r < 0 := by
        rcases Int.lt_or_le x.toInt 0 with q | q
        · have := b3 q; omega
        · have := b2 q; have := hs.2.2.2 q (by omega); omega
      rw [z, if_pos hneg]
  · have hpos : ¬ r < 0 := by
      rcases Int.lt_or_le x.toInt 0 with q | q
      · have := hs.2.1 q (by omega); omega
      · have := b2 q; omega
    rw [if_neg c1, e, if_neg hpos]
theorem own_max_i (x y : Int32) : (own_max x y).toInt = max x.toInt y.toInt := by
  unfold own_max; split <;> rename_i h <;> rw [Int32.lt_iff_toInt_lt] at h <;> omega
theorem own_bpos (x : Int32) : 0 < (own_max 1 (x &&& 2147483647)).toInt := by
  rw [own_max_i, show (1 : Int32).toInt = 1 from rfl]; omega
theorem own_nz {x : Int32} (h : 0 < x.toInt) : x ≠ 0 := fun z => by rw [z] at h; exact absurd h (by decide)
theorem own_bnz (x : Int32) : own_max 1 (x &&& 2147483647) ≠ 0 := own_nz (own_bpos x)
theorem own_range (x y : Int32) (hy : 0 < y.toInt) : ¬ own_fm x y < 0 ∧ own_fm x y < y := by
  rw [Int32.lt_iff_toInt_lt, Int32.lt_iff_toInt_lt, own_fm_i x y hy, show (0 : Int32).toInt = 0 from rfl]
  have := Int.emod_nonneg x.toInt (Int.ne_of_gt hy); have := Int.emod_lt_of_pos x.toInt hy; omega
theorem own_mod4_i (x : Int64) : (own_mod4 x).toInt = x.toInt % 4 := by
  unfold own_mod4
  have e1 : (x % 4).toInt = x.toInt.tmod 4 := Int64.toInt_mod x 4
  have t1 := own_tmod x.toInt 4 (by decide)
  have b1 : x.toInt.tmod 4 < 4 := Int.tmod_lt_of_pos _ (by decide)
  have b2 : -4 < x.toInt.tmod 4 := by have := Int.tmod_lt_of_pos (-x.toInt) (b := 4) (by decide); rw [Int.neg_tmod] at this; omega
  have e2 := c_ladd (x % 4) 4
  rw [show (4 : Int64).toInt = 4 from rfl] at e2
  have r2 := rng64 (x % 4 + 4)
  have e3 : ((x % 4 + 4) % 4).toInt = (x % 4 + 4).toInt.tmod 4 := Int64.toInt_mod _ 4
  have t3 := own_tmod (x % 4 + 4).toInt 4 (by decide)
  have n3 : 0 ≤ (x % 4 + 4).toInt.tmod 4 := Int.tmod_nonneg _ (by omega)
  have b3 : (x % 4 + 4).toInt.tmod 4 < 4 := Int.tmod_lt_of_pos _ (by decide)
  have e4 := c_l2i ((x % 4 + 4) % 4)
  have r4 := rng32 ((x % 4 + 4) % 4).toInt32
  split at t1 <;> split at t3 <;> omega
theorem own_four (w : Int) (h1 : -2147483648 ≤ w) (h2 : w < 2147483648) : (w % 2147483647 % 4 = w % 4 → w % 2147483647 = w) ∧ (¬ w % 2147483647 % 4 = w % 4 → (w % 2147483647 - 2147483647) % 4 = w % 4 → w % 2147483647 - 2147483647 = w) ∧ (¬ w % 2147483647 % 4 = w % 4 → ¬ (w % 2147483647 - 2147483647) % 4 = w % 4 → (w % 2147483647 + 2147483647) % 4 = w % 4 → w % 2147483647 + 2147483647 = w) ∧ (¬ w % 2147483647 % 4 = w % 4 → ¬ (w % 2147483647 - 2147483647) % 4 = w % 4 → ¬ (w % 2147483647 + 2147483647) % 4 = w % 4 → w % 2147483647 - 4294967294 = w) := by
  have e := Int.mul_ediv_add_emod w 2147483647
  have b1 := Int.emod_nonneg w (b := 2147483647) (by decide)
  have b2 := Int.emod_lt_of_pos w (b := 2147483647) (by decide)
  generalize w % 2147483647 = r at *
  generalize w / 2147483647 = k at *
  have hk : k = -2 ∨ k = -1 ∨ k = 0 ∨ k = 1 := by omega
  rcases hk with rfl | rfl | rfl | rfl
  · have : w = r - 4294967294 := by omega
    subst this; refine ⟨fun h => ?_, fun a b => ?_, fun a b c => ?_, fun a b c => ?_⟩ <;> omega
  · have : w = r - 2147483647 := by omega
    subst this; refine ⟨fun h => ?_, fun a b => ?_, fun a b c => ?_, fun a b c => ?_⟩ <;> omega
  · have : w = r := by omega
    subst this; refine ⟨fun h => ?_, fun a b => ?_, fun a b c => ?_, fun a b c => ?_⟩ <;> omega
  · have : w = r + 2147483647 := by omega
    subst this; refine ⟨fun h => ?_, fun a b => ?_, fun a b c => ?_, fun a b c => ?_⟩ <;> omega
theorem own_eq64 {x y : Int} (h : (x - y) % 18446744073709551616 = 0) (r : -9223372036854775808 ≤ x ∧ x < 9223372036854775808) (b1 : -9223372036854775808 ≤ y) (b2 : y < 9223372036854775808) : x = y := by omega
theorem own_d1 (R : Int64) (v : Int) (h : R.toInt = v) (b1 : 0 ≤ v) (b2 : v < 2147483647) : (R - 2147483647).toInt = v - 2147483647 ∧ (R + 2147483647).toInt = v + 2147483647 ∧ (R - 4294967294).toInt = v - 4294967294 := by
  have e1 := c_lsub R 2147483647; have q1 := rng64 (R - 2147483647)
  have e2 := c_ladd R 2147483647; have q2 := rng64 (R + 2147483647)
  have e3 := c_lsub R 4294967294; have q3 := rng64 (R - 4294967294)
  rw [h, show (2147483647 : Int64).toInt = 2147483647 from by decide +kernel] at e1 e2
  rw [h, show (4294967294 : Int64).toInt = 4294967294 from by decide +kernel] at e3
  generalize (R - 2147483647).toInt = A at *
  generalize (R + 2147483647).toInt = B at *
  generalize (R - 4294967294).toInt = D at *
  clear h
  refine ⟨?_, ?_, ?_⟩ <;> omega
theorem own_dist (M r b : Int32) (hr : r.toInt = M.toInt % 2147483647) (hb : b.toInt = M.toInt % 4) :
    (own_mod4 r.toInt64 = b → r.toInt64.toInt = M.toInt) ∧ (¬ own_mod4 r.toInt64 = b → own_mod4 (r.toInt64 - 2147483647) = b → (r.toInt64 - 2147483647).toInt = M.toInt) ∧ (¬ own_mod4 r.toInt64 = b → ¬ own_mod4 (r.toInt64 - 2147483647) = b → own_mod4 (r.toInt64 + 2147483647) = b → (r.toInt64 + 2147483647).toInt = M.toInt) ∧ (¬ own_mod4 r.toInt64 = b → ¬ own_mod4 (r.toInt64 - 2147483647) = b → ¬ own_mod4 (r.toInt64 + 2147483647) = b → (r.toInt64 - 4294967294).toInt = M.toInt) := by
  have rM := rng32 M
  have g0 : r.toInt64.toInt = M.toInt % 2147483647 := (c_i2l r).trans hr
  obtain ⟨g1, g2, g3⟩ := own_d1 r.toInt64 (M.toInt % 2147483647) g0 (Int.emod_nonneg _ (by decide)) (Int.emod_lt_of_pos _ (by decide))
  have m0 := own_mod4_i r.toInt64
  have m1 := own_mod4_i (r.toInt64 - 2147483647)
  have m2 := own_mod4_i (r.toInt64 + 2147483647)
  rw [g0] at m0; rw [g1] at m1; rw [g2] at m2
  simp only [← Int32.toInt_inj, m0, m1, m2, hb, g0, g1, g2, g3]
  exact own_four M.toInt rM.1 rM.2
theorem own_last (M nb : Int32) (x : Int64) (hx : x.toInt = M.toInt) (hn : 0 < nb.toInt) : (own_fm M nb).toInt64 = (x % nb.toInt64 + nb.toInt64) % nb.toInt64 := by
  apply Int64.toInt_inj.mp
  rw [c_i2l, own_fm_i M nb hn]
  have en := c_i2l nb
  have e1 : (x % nb.toInt64).toInt = x.toInt.tmod nb.toInt := by rw [Int64.toInt_mod, en]
  have t1 := own_tmod x.toInt nb.toInt hn
  have b1 : x.toInt.tmod nb.toInt < nb.toInt := Int.tmod_lt_of_pos _ hn
  have b2 : -nb.toInt < x.toInt.tmod nb.toInt := by have := Int.tmod_lt_of_pos (-x.toInt) hn; rw [Int.neg_tmod] at this; omega
  have rn := rng32 nb
  have e2 := c_ladd (x % nb.toInt64) nb.toInt64
  have r2 := rng64 (x % nb.toInt64 + nb.toInt64)
  have e3 : ((x % nb.toInt64 + nb.toInt64) % nb.toInt64).toInt = (x % nb.toInt64 + nb.toInt64).toInt % nb.toInt := by
    rw [Int64.toInt_mod, en]; exact (tr _ _).1 (by omega)
  rw [e3, ← hx]
  have e4 : (x % nb.toInt64 + nb.toInt64).toInt = x.toInt.tmod nb.toInt + nb.toInt := by omega
  rw [e4, Int.add_emod_right, t1]
  split
  · rw [← Int.add_emod_right, Int.emod_eq_of_lt (by omega) (by omega)]
  · rw [Int.emod_eq_of_lt (by omega) b1]
theorem own_bounds (M : Int32) (x : Int64) (hx : x.toInt = M.toInt) : ¬ x < -2147483648 ∧ ¬ 2147483647 < x ∧ x.toInt32 = M := by
  have r := rng32 M
  refine ⟨?_, ?_, ?_⟩
  · rw [Int64.lt_iff_toInt_lt, show (-2147483648 : Int64).toInt = -2147483648 from by decide +kernel]; omega
  · rw [Int64.lt_iff_toInt_lt, show (2147483647 : Int64).toInt = 2147483647 from by decide +kernel]; omega
  · apply Int32.toInt_inj.mp
    have e := c_l2i x
    have q := rng32 x.toInt32
    omega
theorem own_nz64 (x : Int32) : (own_max 1 (x &&& 2147483647)).toInt64 ≠ 0 := fun z => by
  have h := own_bpos x
  rw [← c_i2l, z] at h; exact absurd h (by decide)
theorem ef_rm0 (m : MethodId) (x0 : Int32) (x1 : Int32) : entryFrame m #[(.int x0), (.int x1)] maxLocals = mkF m 0 #[.val (.int x0), .val (.int x1), .unset, .unset, .unset, .unset, .unset, .unset, .unset, .unset, .unset, .unset, .unset, .unset] [] := by first | (simp [entryFrame, mkF, argsToLocals, Value.category, maxLocals]; done) | rfl
theorem pd__J_I : parseMethodDescriptor "(J)I" = some ⟨[.long], some .int⟩ := by decide +kernel
theorem pd__I_I : parseMethodDescriptor "(I)I" = some ⟨[.int], some .int⟩ := by decide +kernel
set_option maxRecDepth 65536 in
set_option maxHeartbeats 40000000 in
theorem rm0 (l : Launch) (Z : State) (a0 : Array Value) (hw : ∀ d ∈ tables_1, d.before a0 Z = true) (ws : List Jvm.Cond) (p0 : Int32) (p1 : Int32) (h0 : Heap)  :
    Pays l Z x code maxLocals ret ws room_1 #[(.int p0), (.int p1)] h0 (fun v h L => v = some (.int (1 : Int32)) ∧ Fr h0.size L) := by
  refine EKit.pays (plainFor_of_name pn_com_example_shardweave_shardweave_ExchangeBucketOfPinLaw) (fun m => ef_rm0 m p0 p1) ?_
  intro p e s m below meth c s₁ hx hby hml hZ hown hnm hret X0 e0 hs0
  have hd := own_dist (own_mix p0) (own_fm (own_mix p0) (2147483647 : Int32)) (own_fm (own_mix p0) (4 : Int32)) (own_fm_i _ _ (by decide +kernel)) (own_fm_i _ _ (by decide))
  refine EKit.iconst X0 hx (v := (1 : Int32)) rfl (hb hby at_0) (q := 1) rfl ?_
  refine EKit.iloadN X0 hx rfl (hb hby at_1) (q := 2) rfl ?_
  refine EKit.ldcInt X0 hx hZ hown (hw _ (List.mem_of_getElem? (i := 0) rfl)) (hb hby at_2) (q := 4) rfl ?_
  refine EKit.iand X0 hx  (hb hby at_4) (q := 5) rfl ?_
  refine EKit.callS X0 hx hZ hown e0 (y := (⟨"java/lang/Math", "max", "(II)I"⟩ : MethodName)) (hw _ (List.mem_of_getElem? (i := 1) rfl)) (hw _ (List.mem_of_getElem? (i := 2) rfl)) (hw _ (List.mem_of_getElem? (i := 3) rfl)) (hw _ (List.mem_of_getElem? (i := 4) rfl)) (by decide) (argsL := [(.int (1 : Int32)), (.int (p1 &&& (2147483647 : Int32)))]) (rm1 l Z a0 hw [] (1 : Int32) (p1 &&& (2147483647 : Int32)) h0 ) (rest := []) (by rw [hml]; rfl) pd__II_I rfl (W := 0) (Nat.le_of_eq rfl) (by decide) (by decide) (by decide) (by decide) rfl (hb hby at_5) (q := 8) rfl ?_
  intro T1 v1 L1 X1 hQ1
  obtain ⟨X1, e1, ev1⟩ := EKit.pureK X1 hQ1
  subst ev1
  show EKit.Ends p l e room_1 s m #[(.int p0), (.int p1)] below meth c room_1.cells room_1.slots (fun v h L => v = some (.int (1 : Int32)) ∧ Fr h0.size L) T1 (mkF m 8 #[.val (.int p0), .val (.int p1), .unset, .unset, .unset, .unset, .unset, .unset, .unset, .unset, .unset, .unset, .unset, .unset] [(.int (own_max (1 : Int32) (p1 &&& (2147483647 : Int32))))])
  refine EKit.istoreN X1 hx (l' := #[.val (.int p0), .val (.int p1), .val (.int (own_max (1 : Int32) (p1 &&& (2147483647 : Int32)))), .unset, .unset, .unset, .unset, .unset, .unset, .unset, .unset, .unset, .unset, .unset]) rfl (hb hby at_8) (q := 9) rfl ?_
  refine EKit.iloadN X1 hx rfl (hb hby at_9) (q := 10) rfl ?_
  refine EKit.ldcInt X1 hx hZ hown (hw _ (List.mem_of_getElem? (i := 0) rfl)) (hb hby at_10) (q := 12) rfl ?_
  refine EKit.callS X1 hx hZ hown e1 (y := (⟨"com/example/shardweave/shardweave/Exchange", "bucketOf", "(II)I"⟩ : MethodName)) (hw _ (List.mem_of_getElem? (i := 5) rfl)) (hw _ (List.mem_of_getElem? (i := 6) rfl)) (hw _ (List.mem_of_getElem? (i := 7) rfl)) (hw _ (List.mem_of_getElem? (i := 8) rfl)) (by decide) (argsL := [(.int p0), (.int (2147483647 : Int32))]) (rm2 l Z a0 hw [] p0 (2147483647 : Int32) h0 (by decide)) (rest := []) (by rw [hml]; rfl) pd__II_I rfl (W := 0) (Nat.le_of_eq rfl) (by decide) (by decide) (by decide) (by decide) rfl (hb hby at_12) (q := 15) rfl ?_
  intro T2 v2 L2 X2 hQ2
  obtain ⟨X2, e2, ev2⟩ := EKit.pureK X2 hQ2
  subst ev2
  show EKit.Ends p l e room_1 s m #[(.int p0), (.int p1)] below meth c room_1.cells room_1.slots (fun v h L => v = some (.int (1 : Int32)) ∧ Fr h0.size L) T2 (mkF m 15 #[.val (.int p0), .val (.int p1), .val (.int (own_max (1 : Int32) (p1 &&& (2147483647 : Int32)))), .unset, .unset, .unset, .unset, .unset, .unset, .unset, .unset, .unset, .unset, .unset] [(.int (own_fm (own_mix p0) (2147483647 : Int32)))])
  refine EKit.istoreN X2 hx (l' := #[.val (.int p0), .val (.int p1), .val (.int (own_max (1 : Int32) (p1 &&& (2147483647 : Int32)))), .val (.int (own_fm (own_mix p0) (2147483647 : Int32))), .unset, .unset, .unset, .unset, .unset, .unset, .unset, .unset, .unset, .unset]) rfl (hb hby at_15) (q := 16) rfl ?_
  refine EKit.iloadN X2 hx rfl (hb hby at_16) (q := 17) rfl ?_
  refine EKit.iconst X2 hx (v := (4 : Int32)) rfl (hb hby at_17) (q := 18) rfl ?_
  refine EKit.callS X2 hx hZ hown e2 (y := (⟨"com/example/shardweave/shardweave/Exchange", "bucketOf", "(II)I"⟩ : MethodName)) (hw _ (List.mem_of_getElem? (i := 5) rfl)) (hw _ (List.mem_of_getElem? (i := 6) rfl)) (hw _ (List.mem_of_getElem? (i := 7) rfl)) (hw _ (List.mem_of_getElem? (i := 8) rfl)) (by decide) (argsL := [(.int p0), (.int (4 : Int32))]) (rm2 l Z a0 hw [] p0 (4 : Int32) h0 (by decide)) (rest := []) (by rw [hml]; rfl) pd__II_I rfl (W := 0) (Nat.le_of_eq rfl) (by decide) (by decide) (by decide) (by decide) rfl (hb hby at_18) (q := 21) rfl ?_
  intro T3 v3 L3 X3 hQ3
  obtain ⟨X3, e3, ev3⟩ := EKit.pureK X3 hQ3
  subst ev3
  show EKit.Ends p l e room_1 s m #[(.int p0), (.int p1)] below meth c room_1.cells room_1.slots (fun v h L => v = some (.int (1 : Int32)) ∧ Fr h0.size L) T3 (mkF m 21 #[.val (.int p0), .val (.int p1), .val (.int (own_max (1 : Int32) (p1 &&& (2147483647 : Int32)))), .val (.int (own_fm (own_mix p0) (2147483647 : Int32))), .unset, .unset, .unset, .unset, .unset, .unset, .unset, .unset, .unset, .unset] [(.int (own_fm (own_mix p0) (4 : Int32)))])
  refine EKit.istore X3 hx (l' := #[.val (.int p0), .val (.int p1), .val (.int (own_max (1 : Int32) (p1 &&& (2147483647 : Int32)))), .val (.int (own_fm (own_mix p0) (2147483647 : Int32))), .val (.int (own_fm (own_mix p0) (4 : Int32))), .unset, .unset, .unset, .unset, .unset, .unset, .unset, .unset, .unset]) rfl (hb hby at_21) (q := 23) rfl ?_
  refine EKit.iloadN X3 hx rfl (hb hby at_23) (q := 24) rfl ?_
  refine EKit.iloadN X3 hx rfl (hb hby at_24) (q := 25) rfl ?_
  refine EKit.callS X3 hx hZ hown e3 (y := (⟨"com/example/shardweave/shardweave/Exchange", "bucketOf", "(II)I"⟩ : MethodName)) (hw _ (List.mem_of_getElem? (i := 5) rfl)) (hw _ (List.mem_of_getElem? (i := 6) rfl)) (hw _ (List.mem_of_getElem? (i := 7) rfl)) (hw _ (List.mem_of_getElem? (i := 8) rfl)) (by decide) (argsL := [(.int p0), (.int (own_max (1 : Int32) (p1 &&& (2147483647 : Int32))))]) (rm2 l Z a0 hw [] p0 (own_max (1 : Int32) (p1 &&& (2147483647 : Int32))) h0 (own_bnz p1)) (rest := []) (by rw [hml]; rfl) pd__II_I rfl (W := 0) (Nat.le_of_eq rfl) (by decide) (by decide) (by decide) (by decide) rfl (hb hby at_25) (q := 28) rfl ?_
  intro T4 v4 L4 X4 hQ4
  obtain ⟨X4, e4, ev4⟩ := EKit.pureK X4 hQ4
  subst ev4
  show EKit.Ends p l e room_1 s m #[(.int p0), (.int p1)] below meth c room_1.cells room_1.slots (fun v h L => v = some (.int (1 : Int32)) ∧ Fr h0.size L) T4 (mkF m 28 #[.val (.int p0), .val (.int p1), .val (.int (own_max (1 : Int32) (p1 &&& (2147483647 : Int32)))), .val (.int (own_fm (own_mix p0) (2147483647 : Int32))), .val (.int (own_fm (own_mix p0) (4 : Int32))), .unset, .unset, .unset, .unset, .unset, .unset, .unset, .unset, .unset] [(.int (own_fm (own_mix p0) (own_max (1 : Int32) (p1 &&& (2147483647 : Int32)))))])
  refine EKit.istore X4 hx (l' := #[.val (.int p0), .val (.int p1), .val (.int (own_max (1 : Int32) (p1 &&& (2147483647 : Int32)))), .val (.int (own_fm (own_mix p0) (2147483647 : Int32))), .val (.int (own_fm (own_mix p0) (4 : Int32))), .val (.int (own_fm (own_mix p0) (own_max (1 : Int32) (p1 &&& (2147483647 : Int32))))), .unset, .unset, .unset, .unset, .unset, .unset, .unset, .unset]) rfl (hb hby at_28) (q := 30) rfl ?_
  refine EKit.iloadN X4 hx rfl (hb hby at_30) (q := 31) rfl ?_
  have h31 : ¬ ((own_fm (own_mix p0) (2147483647 : Int32)) < (0 : Int32)) := (own_range (own_mix p0) (2147483647 : Int32) (by decide +kernel)).1
  refine EKit.ifNo X4 hx (EKit.c_t (flt h31).1) (hb hby at_31) (q := 34) rfl ?_
  refine EKit.iloadN X4 hx rfl (hb hby at_34) (q := 35) rfl ?_
  refine EKit.ldcInt X4 hx hZ hown (hw _ (List.mem_of_getElem? (i := 0) rfl)) (hb hby at_35) (q := 37) rfl ?_
  have h37 : (own_fm (own_mix p0) (2147483647 : Int32)) < (2147483647 : Int32) := (own_range (own_mix p0) (2147483647 : Int32) (by decide +kernel)).2
  refine EKit.icmpNo X4 hx ((tlt h37).2.1) (hb hby at_37) (q := 40) rfl ?_
  refine EKit.iload X4 hx rfl (hb hby at_40) (q := 42) rfl ?_
  have h42 : ¬ ((own_fm (own_mix p0) (4 : Int32)) < (0 : Int32)) := (own_range (own_mix p0) (4 : Int32) (by decide)).1
  refine EKit.ifNo X4 hx (EKit.c_t (flt h42).1) (hb hby at_42) (q := 45) rfl ?_
  refine EKit.iload X4 hx rfl (hb hby at_45) (q := 47) rfl ?_
  refine EKit.iconst X4 hx (v := (4 : Int32)) rfl (hb hby at_47) (q := 48) rfl ?_
  have h48 : (own_fm (own_mix p0) (4 : Int32)) < (4 : Int32) := (own_range (own_mix p0) (4 : Int32) (by decide)).2
  refine EKit.icmpNo X4 hx ((tlt h48).2.1) (hb hby at_48) (q := 51) rfl ?_
  refine EKit.iload X4 hx rfl (hb hby at_51) (q := 53) rfl ?_
  have h53 : ¬ ((own_fm (own_mix p0) (own_max (1 : Int32) (p1 &&& (2147483647 : Int32)))) < (0 : Int32)) := (own_range (own_mix p0) (own_max (1 : Int32) (p1 &&& (2147483647 : Int32))) (own_bpos p1)).1
  refine EKit.ifNo X4 hx (EKit.c_t (flt h53).1) (hb hby at_53) (q := 56) rfl ?_
  refine EKit.iload X4 hx rfl (hb hby at_56) (q := 58) rfl ?_
  refine EKit.iloadN X4 hx rfl (hb hby at_58) (q := 59) rfl ?_
  have h59 : (own_fm (own_mix p0) (own_max (1 : Int32) (p1 &&& (2147483647 : Int32)))) < (own_max (1 : Int32) (p1 &&& (2147483647 : Int32))) := (own_range (own_mix p0) (own_max (1 : Int32) (p1 &&& (2147483647 : Int32))) (own_bpos p1)).2
  refine EKit.icmpYes X4 hx ((tlt h59).1) (hb hby at_59) (by decide) (q := 64) (by decide) ?_
  refine EKit.iloadN X4 hx rfl (hb hby at_64) (q := 65) rfl ?_
  refine EKit.i2l X4 hx  (hb hby at_65) (q := 66) rfl ?_
  refine EKit.lstore X4 hx (l' := #[.val (.int p0), .val (.int p1), .val (.int (own_max (1 : Int32) (p1 &&& (2147483647 : Int32)))), .val (.int (own_fm (own_mix p0) (2147483647 : Int32))), .val (.int (own_fm (own_mix p0) (4 : Int32))), .val (.int (own_fm (own_mix p0) (own_max (1 : Int32) (p1 &&& (2147483647 : Int32))))), .val (.long ((own_fm (own_mix p0) (2147483647 : Int32)).toInt64)), .second, .unset, .unset, .unset, .unset, .unset, .unset]) rfl (hb hby at_66) (q := 68) rfl ?_
  refine EKit.lload X4 hx rfl (hb hby at_68) (q := 70) rfl ?_
  refine EKit.callS X4 hx hZ hown e4 (y := (⟨"com/example/shardweave/shardweave/ExchangeBucketOfPinLaw", "mod4", "(J)I"⟩ : MethodName)) (hw _ (List.mem_of_getElem? (i := 14) rfl)) (hw _ (List.mem_of_getElem? (i := 15) rfl)) (hw _ (List.mem_of_getElem? (i := 16) rfl)) (hw _ (List.mem_of_getElem? (i := 17) rfl)) (by decide) (argsL := [(.long ((own_fm (own_mix p0) (2147483647 : Int32)).toInt64))]) (rm4 l Z a0 hw [] ((own_fm (own_mix p0) (2147483647 : Int32)).toInt64) h0 ) (rest := []) (by rw [hml]; rfl) pd__J_I rfl (W := 0) (Nat.le_of_eq rfl) (by decide) (by decide) (by decide) (by decide) rfl (hb hby at_70) (q := 73) rfl ?_
  intro T5 v5 L5 X5 hQ5
  obtain ⟨X5, e5, ev5⟩ := EKit.pureK X5 hQ5
  subst ev5
  show EKit.Ends p l e room_1 s m #[(.int p0), (.int p1)] below meth c room_1.cells room_1.slots (fun v h L => v = some (.int (1 : Int32)) ∧ Fr h0.size L) T5 (mkF m 73 #[.val (.int p0), .val (.int p1), .val (.int (own_max (1 : Int32) (p1 &&& (2147483647 : Int32)))), .val (.int (own_fm (own_mix p0) (2147483647 : Int32))), .val (.int (own_fm (own_mix p0) (4 : Int32))), .val (.int (own_fm (own_mix p0) (own_max (1 : Int32) (p1 &&& (2147483647 : Int32))))), .val (.long ((own_fm (own_mix p0) (2147483647 : Int32)).toInt64)), .second, .unset, .unset, .unset, .unset, .unset, .unset] [(.int (own_mod4 ((own_fm (own_mix p0) (2147483647 : Int32)).toInt64)))])
  refine EKit.iload X5 hx rfl (hb hby at_73) (q := 75) rfl ?_
  have J143_6 : ∀ (TJ6 : State) (XJ6 : Stand p l e room_1 s m #[(.int p0), (.int p1)] below meth c TJ6 [] 0 0) (eJ6 : TJ6.heap = h0) (nm : Int64) (hj143 : nm.toInt = (own_mix p0).toInt), EKit.Ends p l e room_1 s m #[(.int p0), (.int p1)] below meth c room_1.cells room_1.slots (fun v h L => v = some (.int (1 : Int32)) ∧ Fr h0.size L) TJ6 (mkF m 143 #[.val (.int p0), .val (.int p1), .val (.int (own_max (1 : Int32) (p1 &&& (2147483647 : Int32)))), .val (.int (own_fm (own_mix p0) (2147483647 : Int32))), .val (.int (own_fm (own_mix p0) (4 : Int32))), .val (.int (own_fm (own_mix p0) (own_max (1 : Int32) (p1 &&& (2147483647 : Int32))))), .val (.long ((own_fm (own_mix p0) (2147483647 : Int32)).toInt64)), .second, .val (.long nm), .second, .unset, .unset, .unset, .unset] []) := by
    intro TJ6 XJ6 eJ6 nm hj143
    refine EKit.lload XJ6 hx rfl (hb hby at_143) (q := 145) rfl ?_
    refine EKit.ldc2Long XJ6 hx hZ hown (hw _ (List.mem_of_getElem? (i := 19) rfl)) (hb hby at_145) (q := 148) rfl ?_
    refine EKit.lcmp XJ6 hx  (hb hby at_148) (q := 149) rfl ?_
    have h149 : ¬ (nm < (-2147483648 : Int64)) := (own_bounds (own_mix p0) nm hj143).1
    refine EKit.ifNo XJ6 hx (EKit.c_t (flt (EKit.l_f h149)).1) (hb hby at_149) (q := 152) rfl ?_
    refine EKit.lload XJ6 hx rfl (hb hby at_152) (q := 154) rfl ?_
    refine EKit.ldc2Long XJ6 hx hZ hown (hw _ (List.mem_of_getElem? (i := 20) rfl)) (hb hby at_154) (q := 157) rfl ?_
    refine EKit.lcmp XJ6 hx  (hb hby at_157) (q := 158) rfl ?_
    have h158 : ¬ ((2147483647 : Int64) < nm) := (own_bounds (own_mix p0) nm hj143).2.1
    refine EKit.ifYes XJ6 hx (EKit.c_t (flt (EKit.g_f h158)).2.2.2) (hb hby at_158) (by decide) (q := 163) (by decide) ?_
    refine EKit.lload XJ6 hx rfl (hb hby at_163) (q := 165) rfl ?_
    refine EKit.l2i XJ6 hx  (hb hby at_165) (q := 166) rfl ?_
    refine EKit.callS XJ6 hx hZ hown eJ6 (y := (⟨"com/example/shardweave/shardweave/ExchangeBucketOfPinLaw", "unmix", "(I)I"⟩ : MethodName)) (hw _ (List.mem_of_getElem? (i := 21) rfl)) (hw _ (List.mem_of_getElem? (i := 22) rfl)) (hw _ (List.mem_of_getElem? (i := 16) rfl)) (hw _ (List.mem_of_getElem? (i := 23) rfl)) (by decide) (argsL := [(.int (nm.toInt32))]) (rm5 l Z a0 hw [] (nm.toInt32) h0 ) (rest := []) (by rw [hml]; rfl) pd__I_I rfl (W := 0) (Nat.le_of_eq rfl) (by decide) (by decide) (by decide) (by decide) rfl (hb hby at_166) (q := 169) rfl ?_
    intro T7 v7 L7 X7 hQ7
    obtain ⟨X7, e7, ev7⟩ := EKit.pureK X7 hQ7
    subst ev7
    show EKit.Ends p l e room_1 s m #[(.int p0), (.int p1)] below meth c room_1.cells room_1.slots (fun v h L => v = some (.int (1 : Int32)) ∧ Fr h0.size L) T7 (mkF m 169 #[.val (.int p0), .val (.int p1), .val (.int (own_max (1 : Int32) (p1 &&& (2147483647 : Int32)))), .val (.int (own_fm (own_mix p0) (2147483647 : Int32))), .val (.int (own_fm (own_mix p0) (4 : Int32))), .val (.int (own_fm (own_mix p0) (own_max (1 : Int32) (p1 &&& (2147483647 : Int32))))), .val (.long ((own_fm (own_mix p0) (2147483647 : Int32)).toInt64)), .second, .val (.long nm), .second, .unset, .unset, .unset, .unset] [(.int (own_unmix (nm.toInt32)))])
    refine EKit.iloadN X7 hx rfl (hb hby at_169) (q := 170) rfl ?_
    have h170 : (own_unmix (nm.toInt32)) = p0 := by rw [(own_bounds (own_mix p0) nm hj143).2.2]; exact own_unmix_mix p0
    refine EKit.icmpYes X7 hx ((teq h170).1) (hb hby at_170) (by decide) (q := 175) (by decide) ?_
    refine EKit.iloadN X7 hx rfl (hb hby at_175) (q := 176) rfl ?_
    refine EKit.i2l X7 hx  (hb hby at_176) (q := 177) rfl ?_
    refine EKit.lstore X7 hx (l' := #[.val (.int p0), .val (.int p1), .val (.int (own_max (1 : Int32) (p1 &&& (2147483647 : Int32)))), .val (.int (own_fm (own_mix p0) (2147483647 : Int32))), .val (.int (own_fm (own_mix p0) (4 : Int32))), .val (.int (own_fm (own_mix p0) (own_max (1 : Int32) (p1 &&& (2147483647 : Int32))))), .val (.long ((own_fm (own_mix p0) (2147483647 : Int32)).toInt64)), .second, .val (.long nm), .second, .val (.long ((own_max (1 : Int32) (p1 &&& (2147483647 : Int32))).toInt64)), .second, .unset, .unset]) rfl (hb hby at_177) (q := 179) rfl ?_
    refine EKit.lload X7 hx rfl (hb hby at_179) (q := 181) rfl ?_
    refine EKit.lload X7 hx rfl (hb hby at_181) (q := 183) rfl ?_
    refine EKit.lrem X7 hx ((own_nz64 p1)) (hb hby at_183) (q := 184) rfl ?_
    refine EKit.lload X7 hx rfl (hb hby at_184) (q := 186) rfl ?_
    refine EKit.ladd X7 hx  (hb hby at_186) (q := 187) rfl ?_
    refine EKit.lload X7 hx rfl (hb hby at_187) (q := 189) rfl ?_
    refine EKit.lrem X7 hx ((own_nz64 p1)) (hb hby at_189) (q := 190) rfl ?_
    refine EKit.lstore X7 hx (l' := #[.val (.int p0), .val (.int p1), .val (.int (own_max (1 : Int32) (p1 &&& (2147483647 : Int32)))), .val (.int (own_fm (own_mix p0) (2147483647 : Int32))), .val (.int (own_fm (own_mix p0) (4 : Int32))), .val (.int (own_fm (own_mix p0) (own_max (1 : Int32) (p1 &&& (2147483647 : Int32))))), .val (.long ((own_fm (own_mix p0) (2147483647 : Int32)).toInt64)), .second, .val (.long nm), .second, .val (.long ((own_max (1 : Int32) (p1 &&& (2147483647 : Int32))).toInt64)), .second, .val (.long (((nm % ((own_max (1 : Int32) (p1 &&& (2147483647 : Int32))).toInt64)) + ((own_max (1 : Int32) (p1 &&& (2147483647 : Int32))).toInt64)) % ((own_max (1 : Int32) (p1 &&& (2147483647 : Int32))).toInt64))), .second]) rfl (hb hby at_190) (q := 192) rfl ?_
    refine EKit.iload X7 hx rfl (hb hby at_192) (q := 194) rfl ?_
    refine EKit.i2l X7 hx  (hb hby at_194) (q := 195) rfl ?_
    refine EKit.lload X7 hx rfl (hb hby at_195) (q := 197) rfl ?_
    refine EKit.lcmp X7 hx  (hb hby at_197) (q := 198) rfl ?_
    have h198 : ((own_fm (own_mix p0) (own_max (1 : Int32) (p1 &&& (2147483647 : Int32)))).toInt64) = (((nm % ((own_max (1 : Int32) (p1 &&& (2147483647 : Int32))).toInt64)) + ((own_max (1 : Int32) (p1 &&& (2147483647 : Int32))).toInt64)) % ((own_max (1 : Int32) (p1 &&& (2147483647 : Int32))).toInt64)) := own_last (own_mix p0) (own_max (1 : Int32) (p1 &&& (2147483647 : Int32))) nm hj143 (own_bpos p1)
    refine EKit.ifNo X7 hx (EKit.c_t (teq (EKit.e_t h198)).2) (hb hby at_198) (q := 201) rfl ?_
    refine EKit.iconst X7 hx (v := (1 : Int32)) rfl (hb hby at_201) (q := 202) rfl ?_
    refine EKit.goto X7 hx (hb hby at_202) (by decide) (q := 206) (by decide) ?_
    exact EKit.retZ X7 hx hret (by simp) (hb hby at_206) (⟨rfl, Fr.nil _⟩) (by decide) (by decide)
  by_cases h75 : (own_mod4 ((own_fm (own_mix p0) (2147483647 : Int32)).toInt64)) = (own_fm (own_mix p0) (4 : Int32))
  · skip
    refine EKit.icmpNo X5 hx ((teq h75).2) (hb hby at_75) (q := 78) rfl ?_
    refine EKit.lload X5 hx rfl (hb hby at_78) (q := 80) rfl ?_
    refine EKit.lstore X5 hx (l' := #[.val (.int p0), .val (.int p1), .val (.int (own_max (1 : Int32) (p1 &&& (2147483647 : Int32)))), .val (.int (own_fm (own_mix p0) (2147483647 : Int32))), .val (.int (own_fm (own_mix p0) (4 : Int32))), .val (.int (own_fm (own_mix p0) (own_max (1 : Int32) (p1 &&& (2147483647 : Int32))))), .val (.long ((own_fm (own_mix p0) (2147483647 : Int32)).toInt64)), .second, .val (.long ((own_fm (own_mix p0) (2147483647 : Int32)).toInt64)), .second, .unset, .unset, .unset, .unset]) rfl (hb hby at_80) (q := 82) rfl ?_
    refine EKit.goto X5 hx (hb hby at_82) (by decide) (q := 143) (by decide) ?_
    exact J143_6 T5 X5 e5 ((own_fm (own_mix p0) (2147483647 : Int32)).toInt64) (hd.1 h75)
  · skip
    refine EKit.icmpYes X5 hx ((feq h75).2) (hb hby at_75) (by decide) (q := 85) (by decide) ?_
    refine EKit.lload X5 hx rfl (hb hby at_85) (q := 87) rfl ?_
    refine EKit.ldc2Long X5 hx hZ hown (hw _ (List.mem_of_getElem? (i := 20) rfl)) (hb hby at_87) (q := 90) rfl ?_
    refine EKit.lsub X5 hx  (hb hby at_90) (q := 91) rfl ?_
    refine EKit.callS X5 hx hZ hown e5 (y := (⟨"com/example/shardweave/shardweave/ExchangeBucketOfPinLaw", "mod4", "(J)I"⟩ : MethodName)) (hw _ (List.mem_of_getElem? (i := 14) rfl)) (hw _ (List.mem_of_getElem? (i := 15) rfl)) (hw _ (List.mem_of_getElem? (i := 16) rfl)) (hw _ (List.mem_of_getElem? (i := 17) rfl)) (by decide) (argsL := [(.long (((own_fm (own_mix p0) (2147483647 : Int32)).toInt64) - (2147483647 : Int64)))]) (rm4 l Z a0 hw [] (((own_fm (own_mix p0) (2147483647 : Int32)).toInt64) - (2147483647 : Int64)) h0 ) (rest := []) (by rw [hml]; rfl) pd__J_I rfl (W := 0) (Nat.le_of_eq rfl) (by decide) (by decide) (by decide) (by decide) rfl (hb hby at_91) (q := 94) rfl ?_
    intro T8 v8 L8 X8 hQ8
    obtain ⟨X8, e8, ev8⟩ := EKit.pureK X8 hQ8
    subst ev8
    show EKit.Ends p l e room_1 s m #[(.int p0), (.int p1)] below meth c room_1.cells room_1.slots (fun v h L => v = some (.int (1 : Int32)) ∧ Fr h0.size L) T8 (mkF m 94 #[.val (.int p0), .val (.int p1), .val (.int (own_max (1 : Int32) (p1 &&& (2147483647 : Int32)))), .val (.int (own_fm (own_mix p0) (2147483647 : Int32))), .val (.int (own_fm (own_mix p0) (4 : Int32))), .val (.int (own_fm (own_mix p0) (own_max (1 : Int32) (p1 &&& (2147483647 : Int32))))), .val (.long ((own_fm (own_mix p0) (2147483647 : Int32)).toInt64)), .second, .unset, .unset, .unset, .unset, .unset, .unset] [(.int (own_mod4 (((own_fm (own_mix p0) (2147483647 : Int32)).toInt64) - (2147483647 : Int64))))])
    refine EKit.iload X8 hx rfl (hb hby at_94) (q := 96) rfl ?_
    by_cases h96 : (own_mod4 (((own_fm (own_mix p0) (2147483647 : Int32)).toInt64) - (2147483647 : Int64))) = (own_fm (own_mix p0) (4 : Int32))
    · skip
      refine EKit.icmpNo X8 hx ((teq h96).2) (hb hby at_96) (q := 99) rfl ?_
      refine EKit.lload X8 hx rfl (hb hby at_99) (q := 101) rfl ?_
      refine EKit.ldc2Long X8 hx hZ hown (hw _ (List.mem_of_getElem? (i := 20) rfl)) (hb hby at_101) (q := 104) rfl ?_
      refine EKit.lsub X8 hx  (hb hby at_104) (q := 105) rfl ?_
      refine EKit.lstore X8 hx (l' := #[.val (.int p0), .val (.int p1), .val (.int (own_max (1 : Int32) (p1 &&& (2147483647 : Int32)))), .val (.int (own_fm (own_mix p0) (2147483647 : Int32))), .val (.int (own_fm (own_mix p0) (4 : Int32))), .val (.int (own_fm (own_mix p0) (own_max (1 : Int32) (p1 &&& (2147483647 : Int32))))), .val (.long ((own_fm (own_mix p0) (2147483647 : Int32)).toInt64)), .second, .val (.long (((own_fm (own_mix p0) (2147483647 : Int32)).toInt64) - (2147483647 : Int64))), .second, .unset, .unset, .unset, .unset]) rfl (hb hby at_105) (q := 107) rfl ?_
      refine EKit.goto X8 hx (hb hby at_107) (by decide) (q := 143) (by decide) ?_
      exact J143_6 T8 X8 e8 (((own_fm (own_mix p0) (2147483647 : Int32)).toInt64) - (2147483647 : Int64)) (hd.2.1 h75 h96)
    · skip
      refine EKit.icmpYes X8 hx ((feq h96).2) (hb hby at_96) (by decide) (q := 110) (by decide) ?_
      refine EKit.lload X8 hx rfl (hb hby at_110) (q := 112) rfl ?_
      refine EKit.ldc2Long X8 hx hZ hown (hw _ (List.mem_of_getElem? (i := 20) rfl)) (hb hby at_112) (q := 115) rfl ?_
      refine EKit.ladd X8 hx  (hb hby at_115) (q := 116) rfl ?_
      refine EKit.callS X8 hx hZ hown e8 (y := (⟨"com/example/shardweave/shardweave/ExchangeBucketOfPinLaw", "mod4", "(J)I"⟩ : MethodName)) (hw _ (List.mem_of_getElem? (i := 14) rfl)) (hw _ (List.mem_of_getElem? (i := 15) rfl)) (hw _ (List.mem_of_getElem? (i := 16) rfl)) (hw _ (List.mem_of_getElem? (i := 17) rfl)) (by decide) (argsL := [(.long (((own_fm (own_mix p0) (2147483647 : Int32)).toInt64) + (2147483647 : Int64)))]) (rm4 l Z a0 hw [] (((own_fm (own_mix p0) (2147483647 : Int32)).toInt64) + (2147483647 : Int64)) h0 ) (rest := []) (by rw [hml]; rfl) pd__J_I rfl (W := 0) (Nat.le_of_eq rfl) (by decide) (by decide) (by decide) (by decide) rfl (hb hby at_116) (q := 119) rfl ?_
      intro T9 v9 L9 X9 hQ9
      obtain ⟨X9, e9, ev9⟩ := EKit.pureK X9 hQ9
      subst ev9
      show EKit.Ends p l e room_1 s m #[(.int p0), (.int p1)] below meth c room_1.cells room_1.slots (fun v h L => v = some (.int (1 : Int32)) ∧ Fr h0.size L) T9 (mkF m 119 #[.val (.int p0), .val (.int p1), .val (.int (own_max (1 : Int32) (p1 &&& (2147483647 : Int32)))), .val (.int (own_fm (own_mix p0) (2147483647 : Int32))), .val (.int (own_fm (own_mix p0) (4 : Int32))), .val (.int (own_fm (own_mix p0) (own_max (1 : Int32) (p1 &&& (2147483647 : Int32))))), .val (.long ((own_fm (own_mix p0) (2147483647 : Int32)).toInt64)), .second, .unset, .unset, .unset, .unset, .unset, .unset] [(.int (own_mod4 (((own_fm (own_mix p0) (2147483647 : Int32)).toInt64) + (2147483647 : Int64))))])
      refine EKit.iload X9 hx rfl (hb hby at_119) (q := 121) rfl ?_
      by_cases h121 : (own_mod4 (((own_fm (own_mix p0) (2147483647 : Int32)).toInt64) + (2147483647 : Int64))) = (own_fm (own_mix p0) (4 : Int32))
      · skip
        refine EKit.icmpNo X9 hx ((teq h121).2) (hb hby at_121) (q := 124) rfl ?_
        refine EKit.lload X9 hx rfl (hb hby at_124) (q := 126) rfl ?_
        refine EKit.ldc2Long X9 hx hZ hown (hw _ (List.mem_of_getElem? (i := 20) rfl)) (hb hby at_126) (q := 129) rfl ?_
        refine EKit.ladd X9 hx  (hb hby at_129) (q := 130) rfl ?_
        refine EKit.lstore X9 hx (l' := #[.val (.int p0), .val (.int p1), .val (.int (own_max (1 : Int32) (p1 &&& (2147483647 : Int32)))), .val (.int (own_fm (own_mix p0) (2147483647 : Int32))), .val (.int (own_fm (own_mix p0) (4 : Int32))), .val (.int (own_fm (own_mix p0) (own_max (1 : Int32) (p1 &&& (2147483647 : Int32))))), .val (.long ((own_fm (own_mix p0) (2147483647 : Int32)).toInt64)), .second, .val (.long (((own_fm (own_mix p0) (2147483647 : Int32)).toInt64) + (2147483647 : Int64))), .second, .unset, .unset, .unset, .unset]) rfl (hb hby at_130) (q := 132) rfl ?_
        refine EKit.goto X9 hx (hb hby at_132) (by decide) (q := 143) (by decide) ?_
        exact J143_6 T9 X9 e9 (((own_fm (own_mix p0) (2147483647 : Int32)).toInt64) + (2147483647 : Int64)) (hd.2.2.1 h75 h96 h121)
      · skip
        refine EKit.icmpYes X9 hx ((feq h121).2) (hb hby at_121) (by decide) (q := 135) (by decide) ?_
        refine EKit.lload X9 hx rfl (hb hby at_135) (q := 137) rfl ?_
        refine EKit.ldc2Long X9 hx hZ hown (hw _ (List.mem_of_getElem? (i := 26) rfl)) (hb hby at_137) (q := 140) rfl ?_
        refine EKit.lsub X9 hx  (hb hby at_140) (q := 141) rfl ?_
        refine EKit.lstore X9 hx (l' := #[.val (.int p0), .val (.int p1), .val (.int (own_max (1 : Int32) (p1 &&& (2147483647 : Int32)))), .val (.int (own_fm (own_mix p0) (2147483647 : Int32))), .val (.int (own_fm (own_mix p0) (4 : Int32))), .val (.int (own_fm (own_mix p0) (own_max (1 : Int32) (p1 &&& (2147483647 : Int32))))), .val (.long ((own_fm (own_mix p0) (2147483647 : Int32)).toInt64)), .second, .val (.long (((own_fm (own_mix p0) (2147483647 : Int32)).toInt64) - (4294967294 : Int64))), .second, .unset, .unset, .unset, .unset]) rfl (hb hby at_141) (q := 143) rfl ?_
        exact J143_6 T9 X9 e9 (((own_fm (own_mix p0) (2147483647 : Int32)).toInt64) - (4294967294 : Int64)) (hd.2.2.2 h75 h96 h121)
set_option maxRecDepth 65536 in
set_option maxHeartbeats 40000000 in
theorem comes_1 {Post : Tables → Env → Array Value → State → Outcome → State → Prop} (hpost : ∀ tb e args s v u, (limb_1_1.after args s (.returned v) u = true ∧ limb_1_2.after args s (.returned v) u = true ∧ True) → FrameEnd s (.returned v) u (Jvm.fieldLocs frame_1_writes args s ++ Jvm.arrayLocs frame_1_arrays args s ++ Jvm.staticLocs frame_1_statics s) 0 0 → Post tb e args s (.returned v) u) :
    ArmFor flags0 classFile x code maxLocals ret World_1 tables_1 room_1 Calls_1 rest_1 Pre_1 Post := by
  intro l hfl _ _ p e ha hc hk s m args below hf hA hF happ hP
  obtain ⟨hcalls, hrest, hpre⟩ := hP
  obtain ⟨-, -, -, hnamed, -, -, -, hat⟩ := (Spec.applies_iff hf).mp happ
  obtain ⟨hg, hn⟩ := and_e (Cond.before_iff.mp (show (Jvm.Cond.and given_1 narrow_1).before args s = true from hpre))
  obtain ⟨g4, g5⟩ := and_e hg
  obtain ⟨g6, g7⟩ := and_e g5
  obtain ⟨w0, w1, rfl⟩ : ∃ w0 w1 : Value, args = #[w0, w1] := by
    have hs : args.size = 2 := by simpa [Cond.value, given_1] using g4
    obtain ⟨L⟩ := args
    match L, hs with
    | [w0, w1], _ => exact ⟨w0, w1, rfl⟩
  have hw := fun d (hd : d ∈ tables_1) => atoms_spec (ws := Jvm.Cond.code x code maxLocals ret :: tables_1) hat d (List.mem_cons_of_mem _ hd)
  obtain ⟨i0, ei0⟩ := is_v g6
  obtain rfl : w0 = (.int i0) := Option.some.inj ei0
  obtain ⟨i1, ei1⟩ := is_v g7
  obtain rfl : w1 = (.int i1) := Option.some.inj ei1
  obtain ⟨n, o, h1, h2, h3, _, L, rfl, ⟨rfl, N⟩, hq⟩ := rm0 l s _ hw tables_1 i0 i1 s.heap  p e ha hc hk s m _ below hf ((Spec.applies_iff_loose hf).mp happ).1 ⟨rfl, State.Warmed39.refl s, rfl⟩ trivial
  refine ⟨n, _, h1, h2, h3, hpost _ _ _ _ _ _ ⟨Cond.after_iff.mpr rfl, Cond.after_iff.mpr (eq_i res_at (Term.int_eval (1)) rfl), trivial⟩ ⟨hq.1, hq.2.1, (hq.2.2.sift fun y hy => Or.inr (N y hy)).mono (by decide) (by decide)⟩⟩
theorem main_1_1 : Claimed_1_1 := comes_1 fun _ _ _ _ _ _ h hF => ⟨h.1, hF⟩
theorem main_1_2 : Claimed_1_2 := comes_1 fun _ _ _ _ _ _ h hF => ⟨h.2.1, hF⟩
end Jvm.Pilot.@@N@@
namespace Jvm.Pilot.@@N@@
open Jvm Jvm.ClassFile Sem Op Lib Jvm.Free Jvm.Stand Jvm.Pilot.@@N@@.Jvm.D
/-! MADE BY PROGRAM (witnessworld.py) out of the Statement's table words and the real class files: 10 classes; the members and pool entries that the words name. The judged class is class 1, her method 3. -/
namespace start1
open Jvm.ClassFile
def u (s : String) : CpInfo := .utf8 (stringToUtf16 s)
/-- a pool by its gaps: so many unusable entries, then the entry; so many at the end -/
def gap : Nat → List CpInfo → List CpInfo
  | 0, r => r
  | n + 1, r => .unusable :: gap n r
def poolList (es : List (Nat × CpInfo)) (last : Nat) : List CpInfo := es.foldr (fun e r => gap e.1 (e.2 :: r)) (gap last [])
def pool (es : List (Nat × CpInfo)) (last : Nat) : Array CpInfo := ⟨poolList es last⟩
def fileOf (pool : Array CpInfo) (this : Nat) (attrs : Array Attribute := #[]) (ms : Array MethodInfo := #[]) (fl : Nat := 33) (sup : Nat := 0) (ifs : Array Nat := #[]) (fds : Array FieldInfo := #[]) : ClassFile where
  minorVersion := 0
  majorVersion := 65
  constantPool := pool
  accessFlags := fl
  thisClass := this
  superClass := sup
  interfaces := ifs
  fields := fds
  methods := ms
  attributes := attrs
def plain (name : String) (sup : Option ClassId) : Class where
  name := name
  kind := .ordinary
  loader := none
  accessFlags := 33
  super := sup
  interfaces := #[]
  cf := none
  fields := #[]
  methods := #[]
  instanceTypes := #[]
  staticTypes := #[]
  resolved := #[]
  callSites := []
  init := .initialized
  statics := none
  mirror := none

def pool0 : Array CpInfo := pool [(5, u "<init>"), (0, u "()V"), (1, .class_ 10), (1, u "java/lang/Object")] 113

def k0m0 : Method := { name := "<init>", desc := "()V", sig := { parameters := [], returnType := none }, accessFlags := 1, code := none }
/-- java/lang/Object -/
def k0 : Class := { plain "java/lang/Object" none with
  accessFlags := 33
  interfaces := #[]
  cf := some (fileOf pool0 8 #[] #[{ accessFlags := 1, nameIndex := 5, descriptorIndex := 6, attributes := #[] }] 33 0 #[] #[])
  fields := #[]
  methods := #[k0m0]
  instanceTypes := #[]
  staticTypes := #[]
  resolved := Array.replicate 124 none
  statics := none }

def pool1 : Array CpInfo := pool [(2, .class_ 4), (1, u "java/lang/Object"), (0, u "<init>"), (0, u "()V"), (0, .long 4), (1, .integer 2127672349), (0, .integer 2781581891), (0, .integer 2147483647), (0, .methodref 13 14), (0, .class_ 15), (0, .nameAndType 16 17), (0, u "java/lang/Math"), (0, u "max"), (0, u "(II)I"), (2, .methodref 21 22), (0, .class_ 23), (0, .nameAndType 24 17), (0, u "com/example/shardweave/shardweave/Exchange"), (0, u "bucketOf"), (0, .methodref 26 27), (0, .class_ 28), (0, .nameAndType 29 30), (0, u "com/example/shardweave/shardweave/ExchangeBucketOfPinLaw"), (0, u "mod4"), (0, u "(J)I"), (0, .long 2147483647), (1, .long 4294967294), (1, .long 18446744071562067968), (1, .methodref 26 38), (0, .nameAndType 39 40), (0, u "unmix"), (0, u "(I)I"), (2, u "law"), (0, u "(II)Z")] 3

def k1m0 : Method := { name := "<init>", desc := "()V", sig := { parameters := [], returnType := none }, accessFlags := 1, code := none }
def k1c1 : Code := { maxStack := 4, maxLocals := 2, code := method_2_code, exceptionTable := #[], attributes := #[] }
def k1m1 : Method := { name := "mod4", desc := "(J)I", sig := { parameters := [.long], returnType := some .int }, accessFlags := 10, code := some k1c1 }
def k1c2 : Code := { maxStack := 4, maxLocals := 2, code := method_3_code, exceptionTable := #[], attributes := #[] }
def k1m2 : Method := { name := "unmix", desc := "(I)I", sig := { parameters := [.int], returnType := some .int }, accessFlags := 10, code := some k1c2 }
def k1c3 : Code := { maxStack := 4, maxLocals := 14, code := code, exceptionTable := #[], attributes := #[] }
def k1m3 : Method := { name := "law", desc := "(II)Z", sig := { parameters := [.int, .int], returnType := some .boolean }, accessFlags := 9, code := some k1c3 }
/-- com/example/shardweave/shardweave/ExchangeBucketOfPinLaw -/
def k1 : Class := { plain "com/example/shardweave/shardweave/ExchangeBucketOfPinLaw" (some 0) with
  accessFlags := 49
  interfaces := #[]
  cf := some (fileOf pool1 26 #[] #[{ accessFlags := 1, nameIndex := 5, descriptorIndex := 6, attributes := #[] }, { accessFlags := 10, nameIndex := 29, descriptorIndex := 30, attributes := #[] }, { accessFlags := 10, nameIndex := 39, descriptorIndex := 40, attributes := #[] }, { accessFlags := 9, nameIndex := 43, descriptorIndex := 44, attributes := #[] }] 49 2 #[] #[])
  fields := #[]
  methods := #[k1m0, k1m1, k1m2, k1m3]
  instanceTypes := #[]
  staticTypes := #[]
  resolved := Array.replicate 48 none
  statics := none }

def pool2 : Array CpInfo := pool [(1, .class_ 2), (0, u "java/lang/Math"), (1, .class_ 6), (1, u "java/lang/Object"), (0, u "<init>"), (0, u "()V"), (89, .class_ 100), (1, u "java/lang/Math$RandomNumberGeneratorHolder"), (47, u "floorMod"), (23, u "negativeZeroFloatBits"), (0, u "J"), (2, u "negativeZeroDoubleBits"), (21, u "max"), (46, u "$assertionsDisabled"), (0, u "Z"), (88, u "(II)I"), (2, u "twoToTheDoubleScaleDown"), (0, u "D"), (4, u "twoToTheDoubleScaleUp"), (9, u "E"), (3, u "PI"), (2, u "TAU"), (2, u "DEGREES_TO_RADIANS"), (0, u "RADIANS_TO_DEGREES")] 94

def k2m0 : Method := { name := "<init>", desc := "()V", sig := { parameters := [], returnType := none }, accessFlags := 2, code := none }
def k2c1 : Code := { maxStack := 2, maxLocals := 3, code := jdk_29_method_50_code, exceptionTable := #[], attributes := #[] }
def k2m1 : Method := { name := "floorMod", desc := "(II)I", sig := { parameters := [.int, .int], returnType := some .int }, accessFlags := 9, code := some k2c1 }
def k2c2 : Code := { maxStack := 2, maxLocals := 2, code := jdk_29_method_65_code, exceptionTable := #[], attributes := #[] }
def k2m2 : Method := { name := "max", desc := "(II)I", sig := { parameters := [.int, .int], returnType := some .int }, accessFlags := 9, code := some k2c2 }
/-- java/lang/Math -/
def k2 : Class := { plain "java/lang/Math" (some 0) with
  accessFlags := 49
  interfaces := #[]
  cf := some (fileOf pool2 1 #[.nestMembers #[98]] #[{ accessFlags := 2, nameIndex := 7, descriptorIndex := 8, attributes := #[] }, { accessFlags := 9, nameIndex := 148, descriptorIndex := 335, attributes := #[] }, { accessFlags := 9, nameIndex := 198, descriptorIndex := 335, attributes := #[] }] 49 4 #[] #[{ accessFlags := 25, nameIndex := 354, descriptorIndex := 339, attributes := #[] }, { accessFlags := 25, nameIndex := 358, descriptorIndex := 339, attributes := #[] }, { accessFlags := 25, nameIndex := 361, descriptorIndex := 339, attributes := #[] }, { accessFlags := 26, nameIndex := 364, descriptorIndex := 339, attributes := #[] }, { accessFlags := 26, nameIndex := 365, descriptorIndex := 339, attributes := #[] }, { accessFlags := 26, nameIndex := 172, descriptorIndex := 173, attributes := #[] }, { accessFlags := 26, nameIndex := 176, descriptorIndex := 173, attributes := #[] }, { accessFlags := 8, nameIndex := 344, descriptorIndex := 339, attributes := #[] }, { accessFlags := 8, nameIndex := 338, descriptorIndex := 339, attributes := #[] }, { accessFlags := 4120, nameIndex := 245, descriptorIndex := 246, attributes := #[] }])
  fields := #[{ name := "E", type := .double, accessFlags := 25, slot := 0, constantValue := 0 }, { name := "PI", type := .double, accessFlags := 25, slot := 1, constantValue := 0 }, { name := "TAU", type := .double, accessFlags := 25, slot := 2, constantValue := 0 }, { name := "DEGREES_TO_RADIANS", type := .double, accessFlags := 26, slot := 3, constantValue := 0 }, { name := "RADIANS_TO_DEGREES", type := .double, accessFlags := 26, slot := 4, constantValue := 0 }, { name := "negativeZeroFloatBits", type := .long, accessFlags := 26, slot := 5, constantValue := 0 }, { name := "negativeZeroDoubleBits", type := .long, accessFlags := 26, slot := 6, constantValue := 0 }, { name := "twoToTheDoubleScaleUp", type := .double, accessFlags := 8, slot := 7, constantValue := 0 }, { name := "twoToTheDoubleScaleDown", type := .double, accessFlags := 8, slot := 8, constantValue := 0 }, { name := "$assertionsDisabled", type := .boolean, accessFlags := 4120, slot := 9, constantValue := 0 }]
  methods := #[k2m0, k2m1, k2m2]
  instanceTypes := #[]
  staticTypes := #[.double, .double, .double, .double, .double, .long, .long, .double, .double, .boolean]
  resolved := Array.replicate 460 none
  statics := none }

def pool3 : Array CpInfo := pool [(2, .class_ 4), (1, u "java/lang/Object"), (6, .class_ 13), (1, u "com/example/shardweave/shardweave/Exchange"), (0, u "m_aPartitions"), (0, u "Ljava/util/concurrent/ConcurrentHashMap;"), (2, u "m_nPartitions"), (0, u "I"), (4, u "m_aSent"), (0, u "[Ljava/util/concurrent/atomic/LongAdder;"), (1, .integer 2246822507), (0, .integer 3266489909), (0, .methodref 30 31), (0, .class_ 32), (0, .nameAndType 33 34), (0, u "java/lang/Math"), (0, u "floorMod"), (0, u "(II)I"), (2, u "bucketOf"), (14, .class_ 53), (0, u "com/example/shardweave/shardweave/Exchange$Partition"), (67, .class_ 122), (0, u "com/example/shardweave/shardweave/Exchange$Counts")] 78

def k3c0 : Code := { maxStack := 3, maxLocals := 3, code := prog_20_method_2_code, exceptionTable := #[], attributes := #[] }
def k3m0 : Method := { name := "bucketOf", desc := "(II)I", sig := { parameters := [.int, .int], returnType := some .int }, accessFlags := 8, code := some k3c0 }
/-- com/example/shardweave/shardweave/Exchange -/
def k3 : Class := { plain "com/example/shardweave/shardweave/Exchange" (some 0) with
  accessFlags := 48
  interfaces := #[]
  cf := some (fileOf pool3 11 #[.nestMembers #[52, 121]] #[{ accessFlags := 8, nameIndex := 37, descriptorIndex := 34, attributes := #[] }] 48 2 #[] #[{ accessFlags := 18, nameIndex := 18, descriptorIndex := 19, attributes := #[] }, { accessFlags := 18, nameIndex := 24, descriptorIndex := 25, attributes := #[] }, { accessFlags := 18, nameIndex := 14, descriptorIndex := 15, attributes := #[] }])
  fields := #[{ name := "m_nPartitions", type := .int, accessFlags := 18, slot := 0, constantValue := 0 }, { name := "m_aSent", type := (.array (.object "java/util/concurrent/atomic/LongAdder")), accessFlags := 18, slot := 1, constantValue := 0 }, { name := "m_aPartitions", type := (.object "java/util/concurrent/ConcurrentHashMap"), accessFlags := 18, slot := 2, constantValue := 0 }]
  methods := #[k3m0]
  instanceTypes := #[.int, (.array (.object "java/util/concurrent/atomic/LongAdder")), (.object "java/util/concurrent/ConcurrentHashMap")]
  staticTypes := #[]
  resolved := Array.replicate 201 none
  statics := none }

def pool4 : Array CpInfo := pool [(1, u "java/lang/Cloneable"), (0, .class_ 1), (0, u "java/lang/Object"), (0, .class_ 3)] 3

/-- java/lang/Cloneable -/
def k4 : Class := { plain "java/lang/Cloneable" (some 0) with
  accessFlags := 1537
  interfaces := #[]
  cf := some (fileOf pool4 2 #[] #[] 1537 4 #[] #[])
  fields := #[]
  methods := #[]
  instanceTypes := #[]
  staticTypes := #[]
  resolved := Array.replicate 8 none
  statics := none }

def pool5 : Array CpInfo := pool [(1, u "java/io/Serializable"), (0, .class_ 1), (0, u "java/lang/Object"), (0, .class_ 3)] 3

/-- java/io/Serializable -/
def k5 : Class := { plain "java/io/Serializable" (some 0) with
  accessFlags := 1537
  interfaces := #[]
  cf := some (fileOf pool5 2 #[] #[] 1537 4 #[] #[])
  fields := #[]
  methods := #[]
  instanceTypes := #[]
  staticTypes := #[]
  resolved := Array.replicate 8 none
  statics := none }

/-- the primitive byte -/
def k6 : Class := { plain "byte" none with kind := .primitive 'B', accessFlags := 0x411 }
/-- [B -/
def k7 : Class := { plain "[B" (some 0) with kind := .array 6 .byte, interfaces := #[4, 5], accessFlags := 1041 }

/-- the primitive int -/
def k8 : Class := { plain "int" none with kind := .primitive 'I', accessFlags := 0x411 }
/-- [I -/
def k9 : Class := { plain "[I" (some 0) with kind := .array 8 .int, interfaces := #[4, 5], accessFlags := 1041 }

def heap : Heap := #[]
def classes : Array Class := #[k0, k1, k2, k3, k4, k5, k6, k7, k8, k9]
def interned : List (Array UInt16 × Addr) := []
def slotsUsed : Nat := 0
def theMethod : MethodId := ⟨1, 3⟩
def args0 : Array Value := #[.int 5, .int 9]
def aboutOver (below : List Frame) : State where
  vm := { classes := classes, interned := interned.toArray }
  heap := heap
  slotsUsed := slotsUsed
  threads := #[{ frames := .invoking theMethod args0 :: below }]
def below0 : List Frame := [.native { method := ⟨0, 0⟩, args := #[] }]
def about1 : State := aboutOver below0
def p0 : Program := .bare "" "" ""
def e0 : Env := launch0.env 0 0 0
theorem w_frames : about1.frames = Frame.invoking theMethod args0 :: below0 := rfl
set_option maxRecDepth 65536 in
theorem w_args : argsFit about1.vm theMethod args0 = true := by decide +kernel
set_option maxRecDepth 65536 in
theorem w_heap : heapFits about1 = true := by decide +kernel
set_option maxRecDepth 65536 in
theorem w_runnable : about1.curStatus? = some .runnable := by decide +kernel
set_option maxRecDepth 65536 in
theorem w_alone : about1.alone = true := by decide +kernel
set_option maxRecDepth 65536 in
theorem w_named : about1.methodNamed? x = some theMethod := by decide +kernel
set_option maxRecDepth 65536 in
theorem w_hears : about1.hears theMethod below0 = true := by decide +kernel
set_option maxRecDepth 65536 in
theorem w_ripe : about1.ripe theMethod args0 below0 = true := by decide +kernel
theorem w_running : about1.status = .running := rfl
set_option maxRecDepth 65536 in
theorem w_room : about1.hasRoom e0.platform room_1 = true :=
  launch0.hasRoom_least _ room_1 (by decide +kernel) (by decide +kernel) (by decide +kernel) (by decide +kernel) (by decide +kernel) (by decide +kernel)
theorem allAtoms_all (ts : List Jvm.Cond) (a : Array Jvm.Value) (st : Jvm.State) : (allAtoms ts).before a st = ts.all (fun c => c.before a st) := by
  induction ts with
  | nil => rfl
  | cons c t ih =>
    show (Jvm.Cond.and c (allAtoms t)).before a st = _
    rw [Jvm.Cond.before_and, ih, List.all_cons]
def words1 : List Jvm.Cond := Jvm.Cond.code x code maxLocals ret :: tables_1
/-- a 'code' word, met by the world's own term for the bytes: nothing is compared byte by byte -/
theorem code_word {y : MethodName} {bytes : ByteArray} {mx : Nat} {rt : Option FieldType} {a : Array Value} {s : State} {m : MethodId} {meth : Method} {c : Code} (h1 : s.methodNamed? y = some m) (h2 : s.vm.method? m = some meth) (h3 : meth.code = some c) (h4 : c.code = bytes)
    (h5 : (c.maxLocals == mx && c.exceptionTable.isEmpty && decide (c.maxStack ≤ mostOperands) && decide (meth.sig.returnType = rt) && !meth.locks && decide (parseMethodDescriptor y.desc = some meth.sig)) = true) : (Jvm.Cond.code y bytes mx rt).before a s = true := by
  simp only [Bool.and_eq_true, beq_iff_eq, Bool.not_eq_true', decide_eq_true_eq] at h5
  obtain ⟨⟨⟨⟨⟨g1, g2⟩, g3⟩, g4⟩, g5⟩, g6⟩ := h5
  simp [Cond.before, Cond.holds, Cond.value, h1, h2, h3, h4, g1, g2, g3, g4, g5, g6]
def isCode : Jvm.Cond → Bool
  | .code _ _ _ _ => true
  | _ => false
theorem all_split {L : List Jvm.Cond} {P : Jvm.Cond → Bool} (h1 : L.all (fun c => isCode c || P c) = true) (h2 : ∀ c ∈ L.filter isCode, P c = true) : L.all P = true := by
  refine List.all_eq_true.mpr fun c hc => ?_
  have h := List.all_eq_true.mp h1 c hc
  rcases Bool.eq_false_or_eq_true (isCode c) with hi | hi
  · exact h2 c (List.mem_filter.mpr ⟨hc, hi⟩)
  · simpa [hi] using h
set_option maxRecDepth 65536 in
theorem w_c0 : (Jvm.Cond.code x code maxLocals ret).before args0 about1 = true := code_word (m := ⟨1, 3⟩) (meth := k1m3) (c := k1c3) (by decide +kernel) rfl rfl rfl (by decide +kernel)
set_option maxRecDepth 65536 in
theorem w_c1 : (Jvm.Cond.code ({ cls := "java/lang/Math", name := "max", desc := "(II)I" } : Jvm.MethodName) jdk_29_method_65_code (2 : Nat) (Option.some Jvm.ClassFile.FieldType.int)).before args0 about1 = true := code_word (m := ⟨2, 2⟩) (meth := k2m2) (c := k2c2) (by decide +kernel) rfl rfl rfl (by decide +kernel)
set_option maxRecDepth 65536 in
theorem w_c2 : (Jvm.Cond.code ({ cls := "com/example/shardweave/shardweave/Exchange", name := "bucketOf", desc := "(II)I" } : Jvm.MethodName) prog_20_method_2_code (3 : Nat) (Option.some Jvm.ClassFile.FieldType.int)).before args0 about1 = true := code_word (m := ⟨3, 0⟩) (meth := k3m0) (c := k3c0) (by decide +kernel) rfl rfl rfl (by decide +kernel)
set_option maxRecDepth 65536 in
theorem w_c3 : (Jvm.Cond.code ({ cls := "java/lang/Math", name := "floorMod", desc := "(II)I" } : Jvm.MethodName) jdk_29_method_50_code (3 : Nat) (Option.some Jvm.ClassFile.FieldType.int)).before args0 about1 = true := code_word (m := ⟨2, 1⟩) (meth := k2m1) (c := k2c1) (by decide +kernel) rfl rfl rfl (by decide +kernel)
set_option maxRecDepth 65536 in
theorem w_c4 : (Jvm.Cond.code ({ cls := "com/example/shardweave/shardweave/ExchangeBucketOfPinLaw", name := "mod4", desc := "(J)I" } : Jvm.MethodName) method_2_code (2 : Nat) (Option.some Jvm.ClassFile.FieldType.int)).before args0 about1 = true := code_word (m := ⟨1, 1⟩) (meth := k1m1) (c := k1c1) (by decide +kernel) rfl rfl rfl (by decide +kernel)
set_option maxRecDepth 65536 in
theorem w_c5 : (Jvm.Cond.code ({ cls := "com/example/shardweave/shardweave/ExchangeBucketOfPinLaw", name := "unmix", desc := "(I)I" } : Jvm.MethodName) method_3_code (2 : Nat) (Option.some Jvm.ClassFile.FieldType.int)).before args0 about1 = true := code_word (m := ⟨1, 2⟩) (meth := k1m2) (c := k1c2) (by decide +kernel) rfl rfl rfl (by decide +kernel)
def codes1 : List Jvm.Cond := [Jvm.Cond.code x code maxLocals ret, Jvm.Cond.code ({ cls := "java/lang/Math", name := "max", desc := "(II)I" } : Jvm.MethodName) jdk_29_method_65_code (2 : Nat) (Option.some Jvm.ClassFile.FieldType.int), Jvm.Cond.code ({ cls := "com/example/shardweave/shardweave/Exchange", name := "bucketOf", desc := "(II)I" } : Jvm.MethodName) prog_20_method_2_code (3 : Nat) (Option.some Jvm.ClassFile.FieldType.int), Jvm.Cond.code ({ cls := "java/lang/Math", name := "floorMod", desc := "(II)I" } : Jvm.MethodName) jdk_29_method_50_code (3 : Nat) (Option.some Jvm.ClassFile.FieldType.int), Jvm.Cond.code ({ cls := "com/example/shardweave/shardweave/ExchangeBucketOfPinLaw", name := "mod4", desc := "(J)I" } : Jvm.MethodName) method_2_code (2 : Nat) (Option.some Jvm.ClassFile.FieldType.int), Jvm.Cond.code ({ cls := "com/example/shardweave/shardweave/ExchangeBucketOfPinLaw", name := "unmix", desc := "(I)I" } : Jvm.MethodName) method_3_code (2 : Nat) (Option.some Jvm.ClassFile.FieldType.int)]
set_option maxRecDepth 65536 in
theorem codes_eq : words1.filter isCode = codes1 := rfl
theorem w_codes : ∀ c ∈ words1.filter isCode, c.before args0 about1 = true := by
  rw [codes_eq]
  intro c hc
  simp only [codes1, List.mem_cons, List.not_mem_nil, or_false] at hc
  rcases hc with rfl | rfl | rfl | rfl | rfl | rfl
  · exact w_c0
  · exact w_c1
  · exact w_c2
  · exact w_c3
  · exact w_c4
  · exact w_c5
set_option maxRecDepth 65536 in
theorem w_t1 : (words1.take 24).all (fun c => isCode c || c.before args0 about1) = true := by decide +kernel
set_option maxRecDepth 65536 in
theorem w_t2 : (words1.drop 24).all (fun c => isCode c || c.before args0 about1) = true := by decide +kernel
theorem w_tables : (allAtoms (Jvm.Cond.code x code maxLocals ret :: tables_1)).before args0 about1 = true := by
  rw [allAtoms_all]
  show words1.all (fun c => c.before args0 about1) = true
  refine all_split ?_ w_codes
  rw [← List.take_append_drop 24 words1, List.all_append, w_t1, w_t2]
  rfl
set_option maxRecDepth 65536 in
theorem w_case : (Jvm.Cond.and given_1 narrow_1).before args0 about1 = true := by decide +kernel
theorem w_applies : (headSpec (Jvm.Cond.code x code maxLocals ret :: tables_1) room_1).applies x e0.platform about1 = true :=
  (Spec.applies_iff w_frames).mpr ⟨w_running, w_runnable, w_alone, w_named, w_hears, w_ripe, w_room, w_tables⟩
theorem atStart : AtStart classFile x code maxLocals ret World_1 tables_1 room_1 Calls_1 rest_1 Pre_1 launch0 p0 e0 about1 theMethod args0 below0 :=
  ⟨lists_1, trivial, launch0.admits_env _ _ _, launch0.least_env, fairChoices_fair.cas, fairChoices_fair.clock, w_frames, w_args, w_heap, w_applies, trivial, trivial, w_case⟩
end start1
theorem witness_1 : WitnessClaimed_1 := ⟨start1.p0, start1.e0, start1.about1, start1.theMethod, start1.args0, start1.below0, start1.atStart⟩
end Jvm.Pilot.@@N@@
