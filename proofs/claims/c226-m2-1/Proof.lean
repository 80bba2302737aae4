import JvmDerived
import JvmDerived.Pilot.@@N@@Statement
import JvmDerived.Pilot.@@N@@Code
set_option linter.unusedVariables false
set_option linter.unusedSimpArgs false
namespace Jvm.EKit
open Sem ClassFile Op Lib Jvm.Stand Jvm.Free Jvm.LawKit Jvm.RoadKit
/-- from the frame F at T the body comes to a return that answers Q -/
def Ends (p : Program) (l : Launch) (e : Env) (R : Room) (s : State) (m : MethodId) (args : Array Value) (below : List Frame) (meth : Method) (c : Code) (C S : Nat) (Q : Option Value → Heap → List Loc → Prop) (T : State) (F : JFrame) : Prop :=
  ∃ (T' : State) (locs : List Loc) (cells slots : Nat) (v : Option Value), Stand p l e R s m args below meth c T' locs cells slots ∧ Q v T'.heap locs ∧ cells ≤ C ∧ slots ≤ S ∧ (meth.sig.returnType = none → v = none) ∧
    ∀ fs, (∀ (f : JFrame) (acts : List Action), f.method = m → f.locked = none → f.entered = [] → (doReturn e (T'.setTop f) acts v).1 = T'.setFrames fs) → Steps p.tables e below (T.setTop F) (T'.setFrames fs)
/-- the contract of a body -/
def Pays (l : Launch) (Z : State) (y : MethodName) (bytes : ByteArray) (maxL : Nat) (ret : Option FieldType) (ws : List Jvm.Cond) (rm : Room) (as' : Array Value) (h : Heap) (Q : Option Value → Heap → List Loc → Prop) : Prop :=
  MetFree l y (head1 (Jvm.Cond.code y bytes maxL ret :: ws) rm) (fun a U => a = as' ∧ Z.Warmed39 U.vm ∧ U.heap = h) (fun _ _ _ _ _ => True) (fun _ U o U' => ∃ v L, o = .returned v ∧ Q v U'.heap L ∧ FrameEnd U o U' L rm.cells rm.slots)
/-- it returns V and writes nothing -/
def RetQ (V : Option Value) (h : Heap) : Option Value → Heap → List Loc → Prop := fun v h' L => v = V ∧ h' = h ∧ L = []
section
variable {p : Program} {l : Launch} {e : Env} {R : Room} {s : State} {m : MethodId} {args : Array Value} {below : List Frame} {meth : Method} {c : Code} {T : State} {locs : List Loc} {cells slots : Nat} {C S : Nat} {Q : Option Value → Heap → List Loc → Prop} {pc q : Nat} {Ls : Array Slot} {st rest : List Value}
theorem step {T1 : State} {F F1 : JFrame} (h : ∀ t, Steps p.tables e below (T1.setTop F1) t → Steps p.tables e below (T.setTop F) t) (k : Ends p l e R s m args below meth c C S Q T1 F1) : Ends p l e R s m args below meth c C S Q T F := by
  obtain ⟨T', locs, cells, slots, v, h1, h2, h3, h4, h5, h6⟩ := k
  exact ⟨T', locs, cells, slots, v, h1, h2, h3, h4, h5, fun fs hl => h _ (h6 fs hl)⟩
theorem pays {Z : State} {y : MethodName} {bytes : ByteArray} {maxL : Nat} {ret : Option FieldType} {ws : List Jvm.Cond} {rm : Room} {as' : Array Value} {h : Heap} (hpl : plainFor y = true) {F0 : MethodId → JFrame} (hF : ∀ m, entryFrame m as' maxL = F0 m)
    (k : ∀ (p : Program) (e : Env) (s : State) (m : MethodId) (below : List Frame) (meth : Method) (c : Code) (s₁ : State), p.tables.exec = Jvm.exec → c.code = bytes → c.maxLocals = maxL → Z.Warmed39 s.vm → s.vm.findClass y.cls = some m.cls → meth.name = y.name → meth.sig.returnType = ret → Stand p l e rm s m as' below meth c s₁ [] 0 0 → s₁.heap = h → s.heap = h →
      Ends p l e rm s m as' below meth c rm.cells rm.slots Q s₁ (F0 m)) : Pays l Z y bytes maxL ret ws rm as' h Q := by
  refine MetFree.of_bodySF hpl hisR ?_
  intro p e s m args below meth c s₁ Bd hml0 hP hK
  obtain ⟨rfl, hZ, hh⟩ := hP
  obtain ⟨T', locs, cells, slots, v, X, hQ, h3, h4, h5, h6⟩ := k p e s m below meth c s₁ Bd.exec Bd.bytes hml0 hZ (findClass_of_methodNamed Bd.named) (name_of_methodNamed Bd.named Bd.method).1 Bd.returns (Stand.of_body Bd) (by rw [← hh, Bd.state]; rfl) hh
  obtain ⟨fs, hr, hrun, hended, hW, hsame⟩ := X.leave (v := v) h5
  exact ⟨_, _, castTop (hF m) (h6 fs hr), hrun, hended, v, locs, rfl, hQ, ⟨_, rfl⟩, hW, hsame.mono h3 h4⟩
theorem iloadN (X : Stand p l e R s m args below meth c T locs cells slots) (hx : p.tables.exec = Jvm.exec) {k0 : Fin 4} {v : Int32} (hl : Ls[k0.val]? = some (.val (.int v))) (hd : decode c.code pc = .ok (.iload_n k0, 1)) (hq : pc + 1 = q) (k : Ends p l e R s m args below meth c C S Q T (mkF m q Ls (.int v :: st))) : Ends p l e R s m args below meth c C S Q T (mkF m pc Ls (st)) := step (fun _ h => by subst hq; exact XS.iloadN X.here hx rfl hd hl h) k
theorem iload (X : Stand p l e R s m args below meth c T locs cells slots) (hx : p.tables.exec = Jvm.exec) {k0 : Nat} {v : Int32} (hl : Ls[k0]? = some (.val (.int v))) (hd : decode c.code pc = .ok (.iload k0, 2)) (hq : pc + 2 = q) (k : Ends p l e R s m args below meth c C S Q T (mkF m q Ls (.int v :: st))) : Ends p l e R s m args below meth c C S Q T (mkF m pc Ls (st)) := step (fun _ h => by subst hq; exact XS.iload X.here hx rfl hd hl h) k
theorem istoreN (X : Stand p l e R s m args below meth c T locs cells slots) (hx : p.tables.exec = Jvm.exec) {k0 : Fin 4} {v : Int32} {l' : Array Slot} (hl : storeLocals Ls k0.val (.int v) = some l') (hd : decode c.code pc = .ok (.istore_n k0, 1)) (hq : pc + 1 = q) (k : Ends p l e R s m args below meth c C S Q T (mkF m q l' (st))) : Ends p l e R s m args below meth c C S Q T (mkF m pc Ls (.int v :: st)) := step (fun _ h => by subst hq; exact XS.istoreN X.here hx rfl hd rfl hl h) k
theorem istore (X : Stand p l e R s m args below meth c T locs cells slots) (hx : p.tables.exec = Jvm.exec) {k0 : Nat} {v : Int32} {l' : Array Slot} (hl : storeLocals Ls k0 (.int v) = some l') (hd : decode c.code pc = .ok (.istore k0, 2)) (hq : pc + 2 = q) (k : Ends p l e R s m args below meth c C S Q T (mkF m q l' (st))) : Ends p l e R s m args below meth c C S Q T (mkF m pc Ls (.int v :: st)) := step (fun _ h => by subst hq; exact XS.istore X.here hx rfl hd rfl hl h) k
theorem lloadN (X : Stand p l e R s m args below meth c T locs cells slots) (hx : p.tables.exec = Jvm.exec) {k0 : Fin 4} {v : Int64} (hl : Ls[k0.val]? = some (.val (.long v))) (hd : decode c.code pc = .ok (.lload_n k0, 1)) (hq : pc + 1 = q) (k : Ends p l e R s m args below meth c C S Q T (mkF m q Ls (.long v :: st))) : Ends p l e R s m args below meth c C S Q T (mkF m pc Ls (st)) := step (fun _ h => by subst hq; exact XS.lloadN X.here hx rfl hd hl h) k
theorem lload (X : Stand p l e R s m args below meth c T locs cells slots) (hx : p.tables.exec = Jvm.exec) {k0 : Nat} {v : Int64} (hl : Ls[k0]? = some (.val (.long v))) (hd : decode c.code pc = .ok (.lload k0, 2)) (hq : pc + 2 = q) (k : Ends p l e R s m args below meth c C S Q T (mkF m q Ls (.long v :: st))) : Ends p l e R s m args below meth c C S Q T (mkF m pc Ls (st)) := step (fun _ h => by subst hq; exact XS.lload X.here hx rfl hd hl h) k
theorem lstoreN (X : Stand p l e R s m args below meth c T locs cells slots) (hx : p.tables.exec = Jvm.exec) {k0 : Fin 4} {v : Int64} {l' : Array Slot} (hl : storeLocals Ls k0.val (.long v) = some l') (hd : decode c.code pc = .ok (.lstore_n k0, 1)) (hq : pc + 1 = q) (k : Ends p l e R s m args below meth c C S Q T (mkF m q l' (st))) : Ends p l e R s m args below meth c C S Q T (mkF m pc Ls (.long v :: st)) := step (fun _ h => by subst hq; exact XS.lstoreN X.here hx rfl hd rfl hl h) k
theorem lstore (X : Stand p l e R s m args below meth c T locs cells slots) (hx : p.tables.exec = Jvm.exec) {k0 : Nat} {v : Int64} {l' : Array Slot} (hl : storeLocals Ls k0 (.long v) = some l') (hd : decode c.code pc = .ok (.lstore k0, 2)) (hq : pc + 2 = q) (k : Ends p l e R s m args below meth c C S Q T (mkF m q l' (st))) : Ends p l e R s m args below meth c C S Q T (mkF m pc Ls (.long v :: st)) := step (fun _ h => by subst hq; exact XS.lstore X.here hx rfl hd rfl hl h) k
theorem aloadN (X : Stand p l e R s m args below meth c T locs cells slots) (hx : p.tables.exec = Jvm.exec) {k0 : Fin 4} {v : Value} (hl : Ls[k0.val]? = some (.val v)) (hv : v.isRef = true) (hd : decode c.code pc = .ok (.aload_n k0, 1)) (hq : pc + 1 = q) (k : Ends p l e R s m args below meth c C S Q T (mkF m q Ls (v :: st))) : Ends p l e R s m args below meth c C S Q T (mkF m pc Ls (st)) := step (fun _ h => by subst hq; exact XS.aloadN X.here hx rfl hd hl hv h) k
theorem aload (X : Stand p l e R s m args below meth c T locs cells slots) (hx : p.tables.exec = Jvm.exec) {k0 : Nat} {v : Value} (hl : Ls[k0]? = some (.val v)) (hv : v.isRef = true) (hd : decode c.code pc = .ok (.aload k0, 2)) (hq : pc + 2 = q) (k : Ends p l e R s m args below meth c C S Q T (mkF m q Ls (v :: st))) : Ends p l e R s m args below meth c C S Q T (mkF m pc Ls (st)) := step (fun _ h => by subst hq; exact XS.aload X.here hx rfl hd hl hv h) k
theorem astoreN (X : Stand p l e R s m args below meth c T locs cells slots) (hx : p.tables.exec = Jvm.exec) {k0 : Fin 4} {v : Value} {l' : Array Slot} (hv : v.isRef = true) (hl : storeLocals Ls k0.val v = some l') (hd : decode c.code pc = .ok (.astore_n k0, 1)) (hq : pc + 1 = q) (k : Ends p l e R s m args below meth c C S Q T (mkF m q l' (st))) : Ends p l e R s m args below meth c C S Q T (mkF m pc Ls (v :: st)) := step (fun _ h => by subst hq; exact XS.astoreN X.here hx rfl hd rfl hv hl h) k
theorem astore (X : Stand p l e R s m args below meth c T locs cells slots) (hx : p.tables.exec = Jvm.exec) {k0 : Nat} {v : Value} {l' : Array Slot} (hv : v.isRef = true) (hl : storeLocals Ls k0 v = some l') (hd : decode c.code pc = .ok (.astore k0, 2)) (hq : pc + 2 = q) (k : Ends p l e R s m args below meth c C S Q T (mkF m q l' (st))) : Ends p l e R s m args below meth c C S Q T (mkF m pc Ls (v :: st)) := step (fun _ h => by subst hq; exact XS.astore X.here hx rfl hd rfl hv hl h) k
theorem iconst (X : Stand p l e R s m args below meth c T locs cells slots) (hx : p.tables.exec = Jvm.exec) {i : Int} {v : Int32} (hv : Int32.ofInt i = v) (hd : decode c.code pc = .ok (.iconst i, 1)) (hq : pc + 1 = q) (k : Ends p l e R s m args below meth c C S Q T (mkF m q Ls (.int v :: st))) : Ends p l e R s m args below meth c C S Q T (mkF m pc Ls (st)) := step (fun _ h => by subst hq; exact XS.iconst X.here hx rfl hd (by rw [hv]; exact h)) k
theorem bipush (X : Stand p l e R s m args below meth c T locs cells slots) (hx : p.tables.exec = Jvm.exec) {i : Int} {v : Int32} (hv : (Int8.ofInt i).toInt32 = v) (hd : decode c.code pc = .ok (.bipush i, 2)) (hq : pc + 2 = q) (k : Ends p l e R s m args below meth c C S Q T (mkF m q Ls (.int v :: st))) : Ends p l e R s m args below meth c C S Q T (mkF m pc Ls (st)) := step (fun _ h => by subst hq; exact XS.bipush X.here hx rfl hd (by rw [hv]; exact h)) k
theorem sipush (X : Stand p l e R s m args below meth c T locs cells slots) (hx : p.tables.exec = Jvm.exec) {i : Int} {v : Int32} (hv : (Int16.ofInt i).toInt32 = v) (hd : decode c.code pc = .ok (.sipush i, 3)) (hq : pc + 3 = q) (k : Ends p l e R s m args below meth c C S Q T (mkF m q Ls (.int v :: st))) : Ends p l e R s m args below meth c C S Q T (mkF m pc Ls (st)) := step (fun _ h => by subst hq; exact XS.sipush X.here hx rfl hd (by rw [hv]; exact h)) k
theorem lconst (X : Stand p l e R s m args below meth c T locs cells slots) (hx : p.tables.exec = Jvm.exec) {i : Fin 2} {v : Int64} (hv : Int64.ofNat i = v) (hd : decode c.code pc = .ok (.lconst i, 1)) (hq : pc + 1 = q) (k : Ends p l e R s m args below meth c C S Q T (mkF m q Ls (.long v :: st))) : Ends p l e R s m args below meth c C S Q T (mkF m pc Ls (st)) := step (fun _ h => by subst hq; exact XS.lconst X.here hx rfl hd (by rw [hv]; exact h)) k
theorem aconstNull (X : Stand p l e R s m args below meth c T locs cells slots) (hx : p.tables.exec = Jvm.exec)  (hd : decode c.code pc = .ok (.aconst_null, 1)) (hq : pc + 1 = q) (k : Ends p l e R s m args below meth c C S Q T (mkF m q Ls (.null :: st))) : Ends p l e R s m args below meth c C S Q T (mkF m pc Ls (st)) := step (fun _ h => by subst hq; exact XS.aconstNull X.here hx rfl hd h) k
theorem iadd (X : Stand p l e R s m args below meth c T locs cells slots) (hx : p.tables.exec = Jvm.exec) {x y : Int32} (hd : decode c.code pc = .ok (.iadd, 1)) (hq : pc + 1 = q) (k : Ends p l e R s m args below meth c C S Q T (mkF m q Ls (.int (x + y) :: st))) : Ends p l e R s m args below meth c C S Q T (mkF m pc Ls (.int y :: .int x :: st)) := step (fun _ h => by subst hq; exact XS.iadd X.here hx rfl hd rfl h) k
theorem isub (X : Stand p l e R s m args below meth c T locs cells slots) (hx : p.tables.exec = Jvm.exec) {x y : Int32} (hd : decode c.code pc = .ok (.isub, 1)) (hq : pc + 1 = q) (k : Ends p l e R s m args below meth c C S Q T (mkF m q Ls (.int (x - y) :: st))) : Ends p l e R s m args below meth c C S Q T (mkF m pc Ls (.int y :: .int x :: st)) := step (fun _ h => by subst hq; exact XS.isub X.here hx rfl hd rfl h) k
theorem imul (X : Stand p l e R s m args below meth c T locs cells slots) (hx : p.tables.exec = Jvm.exec) {x y : Int32} (hd : decode c.code pc = .ok (.imul, 1)) (hq : pc + 1 = q) (k : Ends p l e R s m args below meth c C S Q T (mkF m q Ls (.int (x * y) :: st))) : Ends p l e R s m args below meth c C S Q T (mkF m pc Ls (.int y :: .int x :: st)) := step (fun _ h => by subst hq; exact XS.imul X.here hx rfl hd rfl h) k
theorem iand (X : Stand p l e R s m args below meth c T locs cells slots) (hx : p.tables.exec = Jvm.exec) {x y : Int32} (hd : decode c.code pc = .ok (.iand, 1)) (hq : pc + 1 = q) (k : Ends p l e R s m args below meth c C S Q T (mkF m q Ls (.int (x &&& y) :: st))) : Ends p l e R s m args below meth c C S Q T (mkF m pc Ls (.int y :: .int x :: st)) := step (fun _ h => by subst hq; exact XS.iand X.here hx rfl hd rfl h) k
theorem ior (X : Stand p l e R s m args below meth c T locs cells slots) (hx : p.tables.exec = Jvm.exec) {x y : Int32} (hd : decode c.code pc = .ok (.ior, 1)) (hq : pc + 1 = q) (k : Ends p l e R s m args below meth c C S Q T (mkF m q Ls (.int (x ||| y) :: st))) : Ends p l e R s m args below meth c C S Q T (mkF m pc Ls (.int y :: .int x :: st)) := step (fun _ h => by subst hq; exact XS.ior X.here hx rfl hd rfl h) k
theorem ixor (X : Stand p l e R s m args below meth c T locs cells slots) (hx : p.tables.exec = Jvm.exec) {x y : Int32} (hd : decode c.code pc = .ok (.ixor, 1)) (hq : pc + 1 = q) (k : Ends p l e R s m args below meth c C S Q T (mkF m q Ls (.int (x ^^^ y) :: st))) : Ends p l e R s m args below meth c C S Q T (mkF m pc Ls (.int y :: .int x :: st)) := step (fun _ h => by subst hq; exact XS.ixor X.here hx rfl hd rfl h) k
theorem ineg (X : Stand p l e R s m args below meth c T locs cells slots) (hx : p.tables.exec = Jvm.exec) {x : Int32} (hd : decode c.code pc = .ok (.ineg, 1)) (hq : pc + 1 = q) (k : Ends p l e R s m args below meth c C S Q T (mkF m q Ls (.int (-x) :: st))) : Ends p l e R s m args below meth c C S Q T (mkF m pc Ls (.int x :: st)) := step (fun _ h => by subst hq; exact XS.ineg X.here hx rfl hd rfl h) k
theorem idiv (X : Stand p l e R s m args below meth c T locs cells slots) (hx : p.tables.exec = Jvm.exec) {x y : Int32} (hy : y ≠ 0) (hd : decode c.code pc = .ok (.idiv, 1)) (hq : pc + 1 = q) (k : Ends p l e R s m args below meth c C S Q T (mkF m q Ls (.int (x / y) :: st))) : Ends p l e R s m args below meth c C S Q T (mkF m pc Ls (.int y :: .int x :: st)) := step (fun _ h => by subst hq; exact XS.idiv X.here hx rfl hd rfl hy h) k
theorem ladd (X : Stand p l e R s m args below meth c T locs cells slots) (hx : p.tables.exec = Jvm.exec) {x y : Int64} (hd : decode c.code pc = .ok (.ladd, 1)) (hq : pc + 1 = q) (k : Ends p l e R s m args below meth c C S Q T (mkF m q Ls (.long (x + y) :: st))) : Ends p l e R s m args below meth c C S Q T (mkF m pc Ls (.long y :: .long x :: st)) := step (fun _ h => by subst hq; exact XS.ladd X.here hx rfl hd rfl h) k
theorem lsub (X : Stand p l e R s m args below meth c T locs cells slots) (hx : p.tables.exec = Jvm.exec) {x y : Int64} (hd : decode c.code pc = .ok (.lsub, 1)) (hq : pc + 1 = q) (k : Ends p l e R s m args below meth c C S Q T (mkF m q Ls (.long (x - y) :: st))) : Ends p l e R s m args below meth c C S Q T (mkF m pc Ls (.long y :: .long x :: st)) := step (fun _ h => by subst hq; exact XS.lsub X.here hx rfl hd rfl h) k
theorem lmul (X : Stand p l e R s m args below meth c T locs cells slots) (hx : p.tables.exec = Jvm.exec) {x y : Int64} (hd : decode c.code pc = .ok (.lmul, 1)) (hq : pc + 1 = q) (k : Ends p l e R s m args below meth c C S Q T (mkF m q Ls (.long (x * y) :: st))) : Ends p l e R s m args below meth c C S Q T (mkF m pc Ls (.long y :: .long x :: st)) := step (fun _ h => by subst hq; exact XS.lmul X.here hx rfl hd rfl h) k
theorem land (X : Stand p l e R s m args below meth c T locs cells slots) (hx : p.tables.exec = Jvm.exec) {x y : Int64} (hd : decode c.code pc = .ok (.land, 1)) (hq : pc + 1 = q) (k : Ends p l e R s m args below meth c C S Q T (mkF m q Ls (.long (x &&& y) :: st))) : Ends p l e R s m args below meth c C S Q T (mkF m pc Ls (.long y :: .long x :: st)) := step (fun _ h => by subst hq; exact XS.land X.here hx rfl hd rfl h) k
theorem lor (X : Stand p l e R s m args below meth c T locs cells slots) (hx : p.tables.exec = Jvm.exec) {x y : Int64} (hd : decode c.code pc = .ok (.lor, 1)) (hq : pc + 1 = q) (k : Ends p l e R s m args below meth c C S Q T (mkF m q Ls (.long (x ||| y) :: st))) : Ends p l e R s m args below meth c C S Q T (mkF m pc Ls (.long y :: .long x :: st)) := step (fun _ h => by subst hq; exact XS.lor X.here hx rfl hd rfl h) k
theorem lxor (X : Stand p l e R s m args below meth c T locs cells slots) (hx : p.tables.exec = Jvm.exec) {x y : Int64} (hd : decode c.code pc = .ok (.lxor, 1)) (hq : pc + 1 = q) (k : Ends p l e R s m args below meth c C S Q T (mkF m q Ls (.long (x ^^^ y) :: st))) : Ends p l e R s m args below meth c C S Q T (mkF m pc Ls (.long y :: .long x :: st)) := step (fun _ h => by subst hq; exact XS.lxor X.here hx rfl hd rfl h) k
theorem lneg (X : Stand p l e R s m args below meth c T locs cells slots) (hx : p.tables.exec = Jvm.exec) {x : Int64} (hd : decode c.code pc = .ok (.lneg, 1)) (hq : pc + 1 = q) (k : Ends p l e R s m args below meth c C S Q T (mkF m q Ls (.long (-x) :: st))) : Ends p l e R s m args below meth c C S Q T (mkF m pc Ls (.long x :: st)) := step (fun _ h => by subst hq; exact XS.lneg X.here hx rfl hd rfl h) k
theorem ldiv (X : Stand p l e R s m args below meth c T locs cells slots) (hx : p.tables.exec = Jvm.exec) {x y : Int64} (hy : y ≠ 0) (hd : decode c.code pc = .ok (.ldiv, 1)) (hq : pc + 1 = q) (k : Ends p l e R s m args below meth c C S Q T (mkF m q Ls (.long (x / y) :: st))) : Ends p l e R s m args below meth c C S Q T (mkF m pc Ls (.long y :: .long x :: st)) := step (fun _ h => by subst hq; exact XS.ldiv X.here hx rfl hd rfl hy h) k
theorem irem (X : Stand p l e R s m args below meth c T locs cells slots) (hx : p.tables.exec = Jvm.exec) {x y : Int32} (hy : y ≠ 0) (hd : decode c.code pc = .ok (.irem, 1)) (hq : pc + 1 = q) (k : Ends p l e R s m args below meth c C S Q T (mkF m q Ls (.int (x % y) :: st))) : Ends p l e R s m args below meth c C S Q T (mkF m pc Ls (.int y :: .int x :: st)) := step (fun _ h => by subst hq; exact iremM X hx rfl hd rfl hy h) k
theorem lrem (X : Stand p l e R s m args below meth c T locs cells slots) (hx : p.tables.exec = Jvm.exec) {x y : Int64} (hy : y ≠ 0) (hd : decode c.code pc = .ok (.lrem, 1)) (hq : pc + 1 = q) (k : Ends p l e R s m args below meth c C S Q T (mkF m q Ls (.long (x % y) :: st))) : Ends p l e R s m args below meth c C S Q T (mkF m pc Ls (.long y :: .long x :: st)) := step (fun _ h => by subst hq; exact XS.lrem X.here hx rfl hd rfl hy (by rw [lrem_mod]; exact h)) k
theorem ishl (X : Stand p l e R s m args below meth c T locs cells slots) (hx : p.tables.exec = Jvm.exec) {x : Int32} {y : Int32} (hd : decode c.code pc = .ok (.ishl, 1)) (hq : pc + 1 = q) (k : Ends p l e R s m args below meth c C S Q T (mkF m q Ls (.int (x <<< (y &&& 31)) :: st))) : Ends p l e R s m args below meth c C S Q T (mkF m pc Ls (.int y :: .int x :: st)) := step (fun _ h => by subst hq; exact XS.ishl X.here hx rfl hd rfl h) k
theorem ishr (X : Stand p l e R s m args below meth c T locs cells slots) (hx : p.tables.exec = Jvm.exec) {x : Int32} {y : Int32} (hd : decode c.code pc = .ok (.ishr, 1)) (hq : pc + 1 = q) (k : Ends p l e R s m args below meth c C S Q T (mkF m q Ls (.int (x >>> (y &&& 31)) :: st))) : Ends p l e R s m args below meth c C S Q T (mkF m pc Ls (.int y :: .int x :: st)) := step (fun _ h => by subst hq; exact XS.ishr X.here hx rfl hd rfl h) k
theorem iushr (X : Stand p l e R s m args below meth c T locs cells slots) (hx : p.tables.exec = Jvm.exec) {x : Int32} {y : Int32} (hd : decode c.code pc = .ok (.iushr, 1)) (hq : pc + 1 = q) (k : Ends p l e R s m args below meth c C S Q T (mkF m q Ls (.int ((x.toUInt32 >>> (y &&& 31).toUInt32).toInt32) :: st))) : Ends p l e R s m args below meth c C S Q T (mkF m pc Ls (.int y :: .int x :: st)) := step (fun _ h => by subst hq; exact XS.iushr X.here hx rfl hd rfl h) k
theorem lshl (X : Stand p l e R s m args below meth c T locs cells slots) (hx : p.tables.exec = Jvm.exec) {x : Int64} {y : Int32} (hd : decode c.code pc = .ok (.lshl, 1)) (hq : pc + 1 = q) (k : Ends p l e R s m args below meth c C S Q T (mkF m q Ls (.long (x <<< (y &&& 0x3f).toInt64) :: st))) : Ends p l e R s m args below meth c C S Q T (mkF m pc Ls (.int y :: .long x :: st)) := step (fun _ h => by subst hq; exact XS.lshl X.here hx rfl hd rfl h) k
theorem lshr (X : Stand p l e R s m args below meth c T locs cells slots) (hx : p.tables.exec = Jvm.exec) {x : Int64} {y : Int32} (hd : decode c.code pc = .ok (.lshr, 1)) (hq : pc + 1 = q) (k : Ends p l e R s m args below meth c C S Q T (mkF m q Ls (.long (x >>> (y &&& 0x3f).toInt64) :: st))) : Ends p l e R s m args below meth c C S Q T (mkF m pc Ls (.int y :: .long x :: st)) := step (fun _ h => by subst hq; exact XS.lshr X.here hx rfl hd rfl h) k
theorem lushr (X : Stand p l e R s m args below meth c T locs cells slots) (hx : p.tables.exec = Jvm.exec) {x : Int64} {y : Int32} (hd : decode c.code pc = .ok (.lushr, 1)) (hq : pc + 1 = q) (k : Ends p l e R s m args below meth c C S Q T (mkF m q Ls (.long ((x.toUInt64 >>> (y &&& 0x3f).toInt64.toUInt64).toInt64) :: st))) : Ends p l e R s m args below meth c C S Q T (mkF m pc Ls (.int y :: .long x :: st)) := step (fun _ h => by subst hq; exact XS.lushr X.here hx rfl hd rfl h) k
theorem i2l (X : Stand p l e R s m args below meth c T locs cells slots) (hx : p.tables.exec = Jvm.exec) {x : Int32} (hd : decode c.code pc = .ok (.i2l, 1)) (hq : pc + 1 = q) (k : Ends p l e R s m args below meth c C S Q T (mkF m q Ls (.long (x.toInt64) :: st))) : Ends p l e R s m args below meth c C S Q T (mkF m pc Ls (.int x :: st)) := step (fun _ h => by subst hq; exact XS.i2l X.here hx rfl hd rfl h) k
theorem l2i (X : Stand p l e R s m args below meth c T locs cells slots) (hx : p.tables.exec = Jvm.exec) {x : Int64} (hd : decode c.code pc = .ok (.l2i, 1)) (hq : pc + 1 = q) (k : Ends p l e R s m args below meth c C S Q T (mkF m q Ls (.int (x.toInt32) :: st))) : Ends p l e R s m args below meth c C S Q T (mkF m pc Ls (.long x :: st)) := step (fun _ h => by subst hq; exact XS.l2i X.here hx rfl hd rfl h) k
theorem i2b (X : Stand p l e R s m args below meth c T locs cells slots) (hx : p.tables.exec = Jvm.exec) {x : Int32} (hd : decode c.code pc = .ok (.i2b, 1)) (hq : pc + 1 = q) (k : Ends p l e R s m args below meth c C S Q T (mkF m q Ls (.int (x.toInt8.toInt32) :: st))) : Ends p l e R s m args below meth c C S Q T (mkF m pc Ls (.int x :: st)) := step (fun _ h => by subst hq; exact XS.i2b X.here hx rfl hd rfl h) k
theorem i2s (X : Stand p l e R s m args below meth c T locs cells slots) (hx : p.tables.exec = Jvm.exec) {x : Int32} (hd : decode c.code pc = .ok (.i2s, 1)) (hq : pc + 1 = q) (k : Ends p l e R s m args below meth c C S Q T (mkF m q Ls (.int (x.toInt16.toInt32) :: st))) : Ends p l e R s m args below meth c C S Q T (mkF m pc Ls (.int x :: st)) := step (fun _ h => by subst hq; exact XS.i2s X.here hx rfl hd rfl h) k
theorem i2c (X : Stand p l e R s m args below meth c T locs cells slots) (hx : p.tables.exec = Jvm.exec) {x : Int32} (hd : decode c.code pc = .ok (.i2c, 1)) (hq : pc + 1 = q) (k : Ends p l e R s m args below meth c C S Q T (mkF m q Ls (.int (x.toUInt32.toUInt16.toUInt32.toInt32) :: st))) : Ends p l e R s m args below meth c C S Q T (mkF m pc Ls (.int x :: st)) := step (fun _ h => by subst hq; exact XS.i2c X.here hx rfl hd rfl h) k
theorem lcmp (X : Stand p l e R s m args below meth c T locs cells slots) (hx : p.tables.exec = Jvm.exec) {x y : Int64} (hd : decode c.code pc = .ok (.lcmp, 1)) (hq : pc + 1 = q) (k : Ends p l e R s m args below meth c C S Q T (mkF m q Ls (.int (lcmpW x y) :: st))) : Ends p l e R s m args below meth c C S Q T (mkF m pc Ls (.long y :: .long x :: st)) := step (fun _ h => by subst hq; exact XS.lcmp X.here hx rfl hd rfl h) k
theorem dup (X : Stand p l e R s m args below meth c T locs cells slots) (hx : p.tables.exec = Jvm.exec) {v : Value} (hc : v.category = 1) (hd : decode c.code pc = .ok (.dup, 1)) (hq : pc + 1 = q) (k : Ends p l e R s m args below meth c C S Q T (mkF m q Ls (v :: v :: st))) : Ends p l e R s m args below meth c C S Q T (mkF m pc Ls (v :: st)) := step (fun _ h => by subst hq; exact XS.dup X.here hx rfl hd rfl hc h) k
theorem pop (X : Stand p l e R s m args below meth c T locs cells slots) (hx : p.tables.exec = Jvm.exec) {v : Value} (hc : v.category = 1) (hd : decode c.code pc = .ok (.pop, 1)) (hq : pc + 1 = q) (k : Ends p l e R s m args below meth c C S Q T (mkF m q Ls (st))) : Ends p l e R s m args below meth c C S Q T (mkF m pc Ls (v :: st)) := step (fun _ h => by subst hq; exact XS.pop X.here hx rfl hd rfl hc h) k
theorem iinc (X : Stand p l e R s m args below meth c T locs cells slots) (hx : p.tables.exec = Jvm.exec) {k0 : Nat} {cst : Int} {x v : Int32} {l' : Array Slot} (hl : Ls[k0]? = some (.val (.int x))) (hv : x + Int32.ofInt cst = v) (hl' : storeLocals Ls k0 (.int v) = some l') (hd : decode c.code pc = .ok (.iinc k0 cst, 3)) (hq : pc + 3 = q) (k : Ends p l e R s m args below meth c C S Q T (mkF m q l' (st))) : Ends p l e R s m args below meth c C S Q T (mkF m pc Ls (st)) := step (fun _ h => by subst hq; exact XS.iinc X.here hx rfl hd hl (by rw [hv]; exact hl') h) k
theorem goto (X : Stand p l e R s m args below meth c T locs cells slots) (hx : p.tables.exec = Jvm.exec) {o : Int}  (hd : decode c.code pc = .ok (.goto o, 3)) (ho : 0 ≤ (pc : Int) + o) (hq : ((pc : Int) + o).toNat = q) (k : Ends p l e R s m args below meth c C S Q T (mkF m q Ls (st))) : Ends p l e R s m args below meth c C S Q T (mkF m pc Ls (st)) := step (fun _ h => XS.goto X.here hx rfl rfl hd ho hq h) k
theorem ifYes (X : Stand p l e R s m args below meth c T locs cells slots) (hx : p.tables.exec = Jvm.exec) {o : Int} {cd : ClassFile.Cond} {x : Int32} (hc : ifCond.holds cd x = true) (hd : decode c.code pc = .ok (.ifCond cd o, 3)) (ho : 0 ≤ (pc : Int) + o) (hq : ((pc : Int) + o).toNat = q) (k : Ends p l e R s m args below meth c C S Q T (mkF m q Ls (st))) : Ends p l e R s m args below meth c C S Q T (mkF m pc Ls (.int x :: st)) := step (fun _ h => XS.ifYes X.here hx rfl rfl hd rfl hc ho hq h) k
theorem icmpYes (X : Stand p l e R s m args below meth c T locs cells slots) (hx : p.tables.exec = Jvm.exec) {o : Int} {cd : ClassFile.Cond} {x y : Int32} (hc : if_icmp.holds cd x y = true) (hd : decode c.code pc = .ok (.if_icmp cd o, 3)) (ho : 0 ≤ (pc : Int) + o) (hq : ((pc : Int) + o).toNat = q) (k : Ends p l e R s m args below meth c C S Q T (mkF m q Ls (st))) : Ends p l e R s m args below meth c C S Q T (mkF m pc Ls (.int y :: .int x :: st)) := step (fun _ h => XS.icmpYes X.here hx rfl rfl hd rfl hc ho hq h) k
theorem ifnullYes (X : Stand p l e R s m args below meth c T locs cells slots) (hx : p.tables.exec = Jvm.exec) {o : Int}  (hd : decode c.code pc = .ok (.ifnull o, 3)) (ho : 0 ≤ (pc : Int) + o) (hq : ((pc : Int) + o).toNat = q) (k : Ends p l e R s m args below meth c C S Q T (mkF m q Ls (st))) : Ends p l e R s m args below meth c C S Q T (mkF m pc Ls (.null :: st)) := step (fun _ h => XS.ifnullYes X.here hx rfl rfl hd rfl ho hq h) k
theorem ifnonnullYes (X : Stand p l e R s m args below meth c T locs cells slots) (hx : p.tables.exec = Jvm.exec) {o : Int} {b : Addr} (hd : decode c.code pc = .ok (.ifnonnull o, 3)) (ho : 0 ≤ (pc : Int) + o) (hq : ((pc : Int) + o).toNat = q) (k : Ends p l e R s m args below meth c C S Q T (mkF m q Ls (st))) : Ends p l e R s m args below meth c C S Q T (mkF m pc Ls (.ref b :: st)) := step (fun _ h => XS.ifnonnullYes X.here hx rfl rfl hd rfl ho hq h) k
theorem ifNo (X : Stand p l e R s m args below meth c T locs cells slots) (hx : p.tables.exec = Jvm.exec) {o : Int} {cd : ClassFile.Cond} {x : Int32} (hc : ifCond.holds cd x = false) (hd : decode c.code pc = .ok (.ifCond cd o, 3)) (hq : pc + 3 = q) (k : Ends p l e R s m args below meth c C S Q T (mkF m q Ls (st))) : Ends p l e R s m args below meth c C S Q T (mkF m pc Ls (.int x :: st)) := step (fun _ h => by subst hq; exact XS.ifNo X.here hx rfl hd rfl hc h) k
theorem icmpNo (X : Stand p l e R s m args below meth c T locs cells slots) (hx : p.tables.exec = Jvm.exec) {o : Int} {cd : ClassFile.Cond} {x y : Int32} (hc : if_icmp.holds cd x y = false) (hd : decode c.code pc = .ok (.if_icmp cd o, 3)) (hq : pc + 3 = q) (k : Ends p l e R s m args below meth c C S Q T (mkF m q Ls (st))) : Ends p l e R s m args below meth c C S Q T (mkF m pc Ls (.int y :: .int x :: st)) := step (fun _ h => by subst hq; exact XS.icmpNo X.here hx rfl hd rfl hc h) k
theorem ifnullNo (X : Stand p l e R s m args below meth c T locs cells slots) (hx : p.tables.exec = Jvm.exec) {o : Int} {b : Addr} (hd : decode c.code pc = .ok (.ifnull o, 3)) (hq : pc + 3 = q) (k : Ends p l e R s m args below meth c C S Q T (mkF m q Ls (st))) : Ends p l e R s m args below meth c C S Q T (mkF m pc Ls (.ref b :: st)) := step (fun _ h => by subst hq; exact XS.ifnullNo X.here hx rfl hd rfl h) k
theorem ifnonnullNo (X : Stand p l e R s m args below meth c T locs cells slots) (hx : p.tables.exec = Jvm.exec) {o : Int} (hd : decode c.code pc = .ok (.ifnonnull o, 3)) (hq : pc + 3 = q) (k : Ends p l e R s m args below meth c C S Q T (mkF m q Ls (st))) : Ends p l e R s m args below meth c C S Q T (mkF m pc Ls (.null :: st)) := step (fun _ h => by subst hq; exact XS.ifnonnullNo X.here hx rfl hd rfl h) k
theorem acmp (X : Stand p l e R s m args below meth c T locs cells slots) (hx : p.tables.exec = Jvm.exec) {o : Int} {cd : ACond} {x y : Value} (h1 : x.isRef = true) (h2 : y.isRef = true) {same : Bool} (hs : decide (x = y) = same) (hd : decode c.code pc = .ok (.if_acmp cd o, 3)) (ho : 0 ≤ (pc : Int) + o) (hq : q = if acV cd same = true then ((pc : Int) + o).toNat else pc + 3) (k : Ends p l e R s m args below meth c C S Q T (mkF m q Ls st)) : Ends p l e R s m args below meth c C S Q T (mkF m pc Ls (y :: x :: st)) := step (fun _ h => Jvm.RoadKit.acmp X hx rfl h1 h2 rfl hd rfl hs ho hq h) k
theorem dloadN (X : Stand p l e R s m args below meth c T locs cells slots) (hx : p.tables.exec = Jvm.exec) {k0 : Fin 4} {v : UInt64} (hl : Ls[k0.val]? = some (.val (.double v))) (hd : decode c.code pc = .ok (.dload_n k0, 1)) (hq : pc + 1 = q) (k : Ends p l e R s m args below meth c C S Q T (mkF m q Ls (.double v :: st))) : Ends p l e R s m args below meth c C S Q T (mkF m pc Ls (st)) := step (fun _ h => by subst hq; exact XS.dloadN X.here hx rfl hd hl h) k
theorem dload (X : Stand p l e R s m args below meth c T locs cells slots) (hx : p.tables.exec = Jvm.exec) {k0 : Nat} {v : UInt64} (hl : Ls[k0]? = some (.val (.double v))) (hd : decode c.code pc = .ok (.dload k0, 2)) (hq : pc + 2 = q) (k : Ends p l e R s m args below meth c C S Q T (mkF m q Ls (.double v :: st))) : Ends p l e R s m args below meth c C S Q T (mkF m pc Ls (st)) := step (fun _ h => by subst hq; exact XS.dload X.here hx rfl hd hl h) k
theorem dstoreN (X : Stand p l e R s m args below meth c T locs cells slots) (hx : p.tables.exec = Jvm.exec) {k0 : Fin 4} {v : UInt64} {l' : Array Slot} (hl : storeLocals Ls k0.val (.double v) = some l') (hd : decode c.code pc = .ok (.dstore_n k0, 1)) (hq : pc + 1 = q) (k : Ends p l e R s m args below meth c C S Q T (mkF m q l' (st))) : Ends p l e R s m args below meth c C S Q T (mkF m pc Ls (.double v :: st)) := step (fun _ h => by subst hq; exact XS.dstoreN X.here hx rfl hd rfl hl h) k
theorem dstore (X : Stand p l e R s m args below meth c T locs cells slots) (hx : p.tables.exec = Jvm.exec) {k0 : Nat} {v : UInt64} {l' : Array Slot} (hl : storeLocals Ls k0 (.double v) = some l') (hd : decode c.code pc = .ok (.dstore k0, 2)) (hq : pc + 2 = q) (k : Ends p l e R s m args below meth c C S Q T (mkF m q l' (st))) : Ends p l e R s m args below meth c C S Q T (mkF m pc Ls (.double v :: st)) := step (fun _ h => by subst hq; exact XS.dstore X.here hx rfl hd rfl hl h) k
theorem i2d (X : Stand p l e R s m args below meth c T locs cells slots) (hx : p.tables.exec = Jvm.exec) {x : Int32} (hd : decode c.code pc = .ok (.i2d, 1)) (hq : pc + 1 = q) (k : Ends p l e R s m args below meth c C S Q T (mkF m q Ls (.double (FP.i2d x) :: st))) : Ends p l e R s m args below meth c C S Q T (mkF m pc Ls (.int x :: st)) := step (fun _ h => by subst hq; exact XS.i2dS X.here hx rfl hd rfl rfl h) k
theorem b53_i (x : Int32) : B53 x.toInt64 := by
  have h := rng32 x
  unfold B53; rw [c_i2l]
  exact ⟨Int.lt_of_lt_of_le (by decide) h.1, Int.lt_trans h.2 (by decide)⟩
theorem dcmp_i (x y : Int32) (o : CmpOp) : cmpValue (FP.dcmp (FP.i2d x) (FP.i2d y)) o = lcmpW x.toInt64 y.toInt64 := by
  rw [i2d_w, i2d_w]; exact dcmpV_w (b53_i x) (b53_i y) o
theorem dcmpI (X : Stand p l e R s m args below meth c T locs cells slots) (hx : p.tables.exec = Jvm.exec) {o : CmpOp} {x y : Int32} (hd : decode c.code pc = .ok (.dcmp o, 1)) (hq : pc + 1 = q) (k : Ends p l e R s m args below meth c C S Q T (mkF m q Ls (.int (lcmpW x.toInt64 y.toInt64) :: st))) : Ends p l e R s m args below meth c C S Q T (mkF m pc Ls (.double (FP.i2d y) :: .double (FP.i2d x) :: st)) := step (fun _ h => by subst hq; exact XS.dcmpS X.here hx rfl hd rfl (dcmp_i x y o) h) k
theorem ldc2Long (X : Stand p l e R s m args below meth c T locs cells slots) (hx : p.tables.exec = Jvm.exec) {Z : State} {a0 : Array Value} (hZ : Z.Warmed39 s.vm) {own : String} (hown : s.vm.findClass own = some m.cls) {index : Nat} {v : Int64} (w : (Jvm.Cond.constantLong own index v).before a0 Z = true) (hd : decode c.code pc = .ok (.ldc2_w index, 3)) (hq : pc + 3 = q) (k : Ends p l e R s m args below meth c C S Q T (mkF m q Ls (.long v :: st))) : Ends p l e R s m args below meth c C S Q T (mkF m pc Ls st) := step (fun t h => by subst hq; exact X.ldc2Long hx hown (mvT hZ w) (g := mkF m pc Ls st) rfl hd t h) k
theorem ldcInt (X : Stand p l e R s m args below meth c T locs cells slots) (hx : p.tables.exec = Jvm.exec) {Z : State} {a0 : Array Value} (hZ : Z.Warmed39 s.vm) {own : String} (hown : s.vm.findClass own = some m.cls) {index : Nat} {v : Int32} (w : (Jvm.Cond.constant own index v).before a0 Z = true) (hd : decode c.code pc = .ok (.ldc index, 2)) (hq : pc + 2 = q) (k : Ends p l e R s m args below meth c C S Q T (mkF m q Ls (.int v :: st))) : Ends p l e R s m args below meth c C S Q T (mkF m pc Ls st) := step (fun t h => by subst hq; exact X.ldcInt hx hown (mvT hZ w) (g := mkF m pc Ls st) rfl hd t h) k
theorem retZ (X : Stand p l e R s m args below meth c T locs cells slots) (hx : p.tables.exec = Jvm.exec) {z : Int32} {t : FieldType} (hret : meth.sig.returnType = some t) (ht : t = .boolean ∨ t = .byte ∨ t = .char ∨ t = .short) (hd : decode c.code pc = .ok (.ireturn, 1)) (hQ : Q (some (.int (nar t z))) T.heap locs) (hc : cells ≤ C) (hs : slots ≤ S) : Ends p l e R s m args below meth c C S Q T (mkF m pc Ls (.int z :: st)) :=
  ⟨T, locs, cells, slots, _, X, hQ, hc, hs, (fun h => by rw [hret] at h; cases h), fun fs hl => retN X hx hret ht hd hl⟩
theorem retG (X : Stand p l e R s m args below meth c T locs cells slots) (hx : p.tables.exec = Jvm.exec) {w : Value} {t : FieldType} {i : Instr} (hret : meth.sig.returnType = some t) (hn : narrow t w = w)
    (hi : (i = .ireturn ∧ (t = .int ∨ t = .boolean ∨ t = .byte ∨ t = .char ∨ t = .short) ∧ ∃ z, w = .int z) ∨ (i = .lreturn ∧ t = .long ∧ ∃ z, w = .long z) ∨ (i = .dreturn ∧ t = .double ∧ ∃ z, w = .double z) ∨ (i = .freturn ∧ t = .float ∧ ∃ z, w = .float z) ∨ (i = .areturn ∧ t.isReference = true ∧ w.isRef = true)) (hd : decode c.code pc = .ok (i, 1)) (hQ : Q (some w) T.heap locs) (hc : cells ≤ C) (hs : slots ≤ S) : Ends p l e R s m args below meth c C S Q T (mkF m pc Ls (w :: st)) :=
  ⟨T, locs, cells, slots, _, X, hQ, hc, hs, (fun h => by rw [hret] at h; cases h), fun fs hl => retOut X hx hret hn hi hd hl⟩
theorem retI (X : Stand p l e R s m args below meth c T locs cells slots) (hx : p.tables.exec = Jvm.exec) {z : Int32} (hret : meth.sig.returnType = some .int) (hd : decode c.code pc = .ok (.ireturn, 1)) (hQ : Q (some (.int z)) T.heap locs) (hc : cells ≤ C) (hs : slots ≤ S) : Ends p l e R s m args below meth c C S Q T (mkF m pc Ls (.int z :: st)) := retG X hx hret rfl (Or.inl ⟨rfl, Or.inl rfl, z, rfl⟩) hd hQ hc hs
theorem retL (X : Stand p l e R s m args below meth c T locs cells slots) (hx : p.tables.exec = Jvm.exec) {z : Int64} (hret : meth.sig.returnType = some .long) (hd : decode c.code pc = .ok (.lreturn, 1)) (hQ : Q (some (.long z)) T.heap locs) (hc : cells ≤ C) (hs : slots ≤ S) : Ends p l e R s m args below meth c C S Q T (mkF m pc Ls (.long z :: st)) := retG X hx hret rfl (Or.inr (Or.inl ⟨rfl, rfl, z, rfl⟩)) hd hQ hc hs
theorem retA (X : Stand p l e R s m args below meth c T locs cells slots) (hx : p.tables.exec = Jvm.exec) {v : Value} {t : FieldType} (hret : meth.sig.returnType = some t) (ht : t.isReference = true) (hv : v.isRef = true) (hn : narrow t v = v) (hd : decode c.code pc = .ok (.areturn, 1)) (hQ : Q (some v) T.heap locs) (hc : cells ≤ C) (hs : slots ≤ S) : Ends p l e R s m args below meth c C S Q T (mkF m pc Ls (v :: st)) := retG X hx hret hn (Or.inr (Or.inr (Or.inr (Or.inr ⟨rfl, ht, hv⟩)))) hd hQ hc hs
theorem retV (X : Stand p l e R s m args below meth c T locs cells slots) (hx : p.tables.exec = Jvm.exec) (hret : meth.sig.returnType = none) (hd : decode c.code pc = .ok (.return_, 1)) (hQ : Q none T.heap locs) (hc : cells ≤ C) (hs : slots ≤ S) : Ends p l e R s m args below meth c C S Q T (mkF m pc Ls []) :=
  ⟨T, locs, cells, slots, none, X, hQ, hc, hs, (fun _ => rfl), fun fs hl => X.returnOut hx hret hd hl⟩
theorem callS (X : Stand p l e R s m args below meth c T locs cells slots) (hx : p.tables.exec = Jvm.exec) {Z : State} {a0 : Array Value} (hZ : Z.Warmed39 s.vm) {own : String} (hown : s.vm.findClass own = some m.cls) {index : Nat} {h : Heap} (eT : T.heap = h) {y : MethodName} {bytes : ByteArray} {maxL : Nat} {ret : Option FieldType} {rm : Room} {Qc : Option Value → Heap → List Loc → Prop} (w1 : (Jvm.Cond.methodLink own index y).before a0 Z = true) (w2 : (Jvm.Cond.static y).before a0 Z = true) (w3 : (Jvm.Cond.initialized y.cls).before a0 Z = true) (w4 : (Jvm.Cond.code y bytes maxL ret).before a0 Z = true) (hy : y.cls ≠ "java/lang/invoke/MethodHandle" ∧ y.cls ≠ "java/lang/invoke/VarHandle")
    {argsL : List Value} (hM : Pays l Z y bytes maxL ret [] rm argsL.toArray h Qc) (hsize : Ls.size = c.maxLocals) {ps : List FieldType} {rt : Option FieldType} (hsig : parseMethodDescriptor y.desc = some ⟨ps, rt⟩) (hlen : argsL.length = ps.length) {W : Nat} (hW : (rest.map fun v => v.category).sum ≤ W) (hf : rm.frames + 1 ≤ R.frames) (hl : W + (maxL + 11) + rm.locals ≤ R.locals) (hcc : cells + rm.cells ≤ R.cells) (hss : slots + rm.slots ≤ R.slots) (hst : st = argsL.reverse ++ rest) (hd : decode c.code pc = .ok (.invokestatic index, 3)) (hq : pc + 3 = q) (k : ∀ (T' : State) (v : Option Value) (L : List Loc), Stand p l e R s m args below meth c T' (locs ++ L) (cells + rm.cells) (slots + rm.slots) → Qc v T'.heap L → Ends p l e R s m args below meth c C S Q T' (mkF m q Ls (v.toList ++ rest))) : Ends p l e R s m args below meth c C S Q T (mkF m pc Ls st) := by
  obtain ⟨v, _, ⟨T', L', k', n'⟩, -, X', ⟨L, hQ, l1, y1, z1⟩, stp⟩ := Jvm.LawKit.callS X hx (y := y) hown (mvT hZ w1) (mvT hZ w2) (mvT hZ w3) (mvT hZ w4) hy (backOf (W := W) hM hZ w4 w3 hf hl) (g := mkF m pc Ls st) rfl hsize (argsL := argsL) (rest := rest) (lenOf hsig hlen) hst (by show 2 * 0 + _ ≤ _; omega) hd (fun _ _ => ⟨rfl, eT, hcc, hss⟩)
  dsimp only [Pt.U, Pt.locs, Pt.cells, Pt.slots] at X' l1 y1 z1 stp hQ
  subst l1 y1 z1 hq
  exact step stp (k T' v L X' hQ)
theorem callI (X : Stand p l e R s m args below meth c T locs cells slots) (hx : p.tables.exec = Jvm.exec) {Z : State} {a0 : Array Value} (hZ : Z.Warmed39 s.vm) {own : String} (hown : s.vm.findClass own = some m.cls) {index : Nat} {h : Heap} (eT : T.heap = h) {y : MethodName} {bytes : ByteArray} {maxL : Nat} {rm : Room} {Qc : Option Value → Heap → List Loc → Prop} (hy1 : y.name = "<init>") (w1 : (Jvm.Cond.methodLink own index y).before a0 Z = true) (w2 : (Jvm.Cond.instanceMethod y).before a0 Z = true) (w3 : (Jvm.Cond.initialized y.cls).before a0 Z = true) (w4 : (Jvm.Cond.code y bytes maxL none).before a0 Z = true) (hy : y.cls ≠ "java/lang/invoke/MethodHandle" ∧ y.cls ≠ "java/lang/invoke/VarHandle")
    {a : Addr} {argsL : List Value} (hM : Pays l Z y bytes maxL none [] rm (Value.ref a :: argsL).toArray h Qc) (hsize : Ls.size = c.maxLocals) {ps : List FieldType} {rt : Option FieldType} (hsig : parseMethodDescriptor y.desc = some ⟨ps, rt⟩) (hlen : argsL.length = ps.length) {W : Nat} (hW : (rest.map fun v => v.category).sum ≤ W) (hf : rm.frames + 1 ≤ R.frames) (hl : W + (maxL + 11) + rm.locals ≤ R.locals) (hcc : cells + rm.cells ≤ R.cells) (hss : slots + rm.slots ≤ R.slots) (hst : st = argsL.reverse ++ .ref a :: rest) (hd : decode c.code pc = .ok (.invokespecial index, 3)) (hq : pc + 3 = q) (k : ∀ (T' : State) (v : Option Value) (L : List Loc), Stand p l e R s m args below meth c T' (locs ++ L) (cells + rm.cells) (slots + rm.slots) → Qc v T'.heap L → Ends p l e R s m args below meth c C S Q T' (mkF m q Ls (v.toList ++ rest))) : Ends p l e R s m args below meth c C S Q T (mkF m pc Ls st) := by
  obtain ⟨v, _, ⟨T', L', k', n'⟩, -, X', ⟨L, hQ, l1, y1, z1⟩, stp⟩ := X.specialBack hx (y := y) hy1 hown (mvT hZ w1) (mvT hZ w2) (mvT hZ w4) hy (backOf (W := W) hM hZ w4 w3 hf hl) (g := mkF m pc Ls st) rfl hsize (Steps.refl _) (a := a) (argsL := argsL) (rest := rest) (lenOf hsig hlen) hst (by show 2 * 0 + _ ≤ _; omega) hd (fun _ _ => ⟨rfl, eT, hcc, hss⟩)
  dsimp only [Pt.U, Pt.locs, Pt.cells, Pt.slots] at X' l1 y1 z1 stp hQ
  subst l1 y1 z1 hq
  exact step (fun _ h => stp.trans h) (k T' v L X' hQ)
theorem callV (X : Stand p l e R s m args below meth c T locs cells slots) (hx : p.tables.exec = Jvm.exec) {Z : State} {a0 : Array Value} (hZ : Z.Warmed39 s.vm) {own : String} (hown : s.vm.findClass own = some m.cls) {index : Nat} {h : Heap} (eT : T.heap = h) {y z : MethodName} {K : String} {bytes : ByteArray} {maxL : Nat} {ret : Option FieldType} {rm : Room} {Qc : Option Value → Heap → List Loc → Prop} (w1 : (Jvm.Cond.methodLink own index y).before a0 Z = true) (w2 : (Jvm.Cond.declares y).before a0 Z = true) (hnf : NotFace s y) (w5 : (Jvm.Cond.selects K y z).before a0 Z = true) (w6 : (Jvm.Cond.instanceMethod z).before a0 Z = true) (w3 : (Jvm.Cond.initialized z.cls).before a0 Z = true) (w4 : (Jvm.Cond.code z bytes maxL ret).before a0 Z = true) (hy : y.cls ≠ "java/lang/invoke/MethodHandle" ∧ y.cls ≠ "java/lang/invoke/VarHandle")
    {a : Addr} (E : Exa Z h a K) {argsL : List Value} (hM : Pays l Z z bytes maxL ret [] rm (Value.ref a :: argsL).toArray h Qc) (hsize : Ls.size = c.maxLocals) {ps : List FieldType} {rt : Option FieldType} (hsig : parseMethodDescriptor y.desc = some ⟨ps, rt⟩) (hlen : argsL.length = ps.length) {W : Nat} (hW : (rest.map fun v => v.category).sum ≤ W) (hf : rm.frames + 1 ≤ R.frames) (hl : W + (maxL + 11) + rm.locals ≤ R.locals) (hcc : cells + rm.cells ≤ R.cells) (hss : slots + rm.slots ≤ R.slots) (hst : st = argsL.reverse ++ .ref a :: rest) (hd : decode c.code pc = .ok (.invokevirtual index, 3)) (hq : pc + 3 = q) (k : ∀ (T' : State) (v : Option Value) (L : List Loc), Stand p l e R s m args below meth c T' (locs ++ L) (cells + rm.cells) (slots + rm.slots) → Qc v T'.heap L → Ends p l e R s m args below meth c C S Q T' (mkF m q Ls (v.toList ++ rest))) : Ends p l e R s m args below meth c C S Q T (mkF m pc Ls st) := by
  obtain ⟨cq, kq, qa, qb, qc⟩ := isOf hZ eT E
  obtain ⟨v, _, ⟨T', L', k', n'⟩, -, X', ⟨L, hQ, l1, y1, z1⟩, stp⟩ := X.virtualBack hx (y := y) (z := z) hown (mvT hZ w1) (mvT hZ w2) hnf (mvT hZ w5) (mvT hZ w6) hy (backOf (W := W) hM hZ w4 w3 hf hl) qa qc (g := mkF m pc Ls st) rfl hsize (Steps.refl _) (argsL := argsL) (rest := rest) (lenOf hsig hlen) hst (by show 2 * 0 + _ ≤ _; omega) hd (fun _ _ => ⟨rfl, eT, hcc, hss⟩)
  dsimp only [Pt.U, Pt.locs, Pt.cells, Pt.slots] at X' l1 y1 z1 stp hQ
  subst l1 y1 z1 hq
  exact step (fun _ h => stp.trans h) (k T' v L X' hQ)
theorem pureK {T' : State} {v V : Option Value} {h : Heap} {L : List Loc} (X' : Stand p l e R s m args below meth c T' (locs ++ L) (cells + 0) (slots + 0)) (hQ : RetQ V h v T'.heap L) : Stand p l e R s m args below meth c T' locs cells slots ∧ T'.heap = h ∧ v = V := by
  obtain ⟨h1, h2, rfl⟩ := hQ
  rw [List.append_nil] at X'
  exact ⟨X', h2, h1⟩
theorem iteP {α : Type} {P : α → Prop} {c : Prop} [Decidable c] {a b : α} (h1 : P a) (h2 : P b) : P (if c then a else b) := by split <;> assumption
theorem cat_of {v : Value} (h : v.isRef = true) : v.category = 1 := by rcases ref_cases h with rfl | ⟨a, rfl⟩ <;> rfl
theorem c_t {cd : ClassFile.Cond} {x : Int32} {b : Bool} (h : if_icmp.holds cd x 0 = b) : ifCond.holds cd x = b := (if0 cd x).trans h
theorem Ext_trans {h0 h h' : Heap} (E : Ext h0 h) (E' : Ext h h') : Ext h0 h' := ⟨Nat.le_trans E.1 E'.1, fun a c q => E'.2 a c (E.2 a c q)⟩
theorem Ext_wr {h0 h h' : Heap} {a : Addr} {sl : Nat} {v : Value} (E : Ext h0 h) (W : Wr h h' a sl v) (q : h0.size ≤ a) : Ext h0 h' :=
  ⟨Nat.le_trans E.1 (Keep.of_wr W).1, fun b c r => (Keep.of_wr W).2.1 b c (E.2 b c r) (ninS (Nat.ne_of_lt (Nat.lt_of_lt_of_le (Array.getElem?_eq_some_iff.mp r).1 q)) nin0)⟩
theorem Ext_keep {h0 h h' : Heap} {ws : List Addr} (E : Ext h0 h) (K : Keep h h' ws) (q : ∀ x ∈ ws, h0.size ≤ x) : Ext h0 h' :=
  ⟨Nat.le_trans E.1 K.1, fun b c r => K.2.1 b c (E.2 b c r) fun z => absurd (Array.getElem?_eq_some_iff.mp r).1 (Nat.not_lt.mpr (q b z))⟩
theorem rr_t {a b : Addr} (h : a = b) : decide ((Value.ref a : Value) = .ref b) = true := decide_eq_true (congrArg Value.ref h)
theorem rr_f {a b : Addr} (h : ¬ a = b) : decide ((Value.ref a : Value) = .ref b) = false := decide_eq_false fun q => h (Value.ref.inj q)
theorem l_t {x y : Int64} (h : x < y) : lcmpW x y < 0 := (lw_lt x y).mpr h
theorem l_f {x y : Int64} (h : ¬ x < y) : ¬ lcmpW x y < 0 := fun q => h ((lw_lt x y).mp q)
theorem g_t {x y : Int64} (h : y < x) : 0 < lcmpW x y := (lw_gt x y).mpr h
theorem g_f {x y : Int64} (h : ¬ y < x) : ¬ 0 < lcmpW x y := fun q => h ((lw_gt x y).mp q)
theorem e_t {x y : Int64} (h : x = y) : lcmpW x y = 0 := (lw_eq x y).mpr h
theorem e_f {x y : Int64} (h : ¬ x = y) : ¬ lcmpW x y = 0 := fun q => h ((lw_eq x y).mp q)
end
end Jvm.EKit
namespace Jvm.EKit
open Sem ClassFile Op Lib Jvm.Stand Jvm.Free Jvm.LawKit Jvm.RoadKit
/-- the array at a: its class, kind, length, and what lies at each place -/
def Ary (Z : State) (h : Heap) (a : Addr) (k : ClassId) (ty : FieldType) (n : Int32) (f : Int32 → Value) : Prop :=
  ∃ cl : Cell, Arr Z h a cl ty ∧ cl.cls = k ∧ cl.slots.size = n.toNatClampNeg ∧ ¬ n < 0 ∧ ∀ j : Int32, ¬ j < 0 → j < n → cl.slots[j.toNatClampNeg]? = some (f j)
section
variable {Z : State} {h h' : Heap} {a b : Addr} {k : ClassId} {ty : FieldType} {n : Int32} {f : Int32 → Value}
theorem Ary.lt (F : Ary Z h a k ty n f) : a < h.size := by obtain ⟨cl, A, -⟩ := F; exact A.lt
theorem Ary.ext (F : Ary Z h a k ty n f) (E : Ext h h') : Ary Z h' a k ty n f := by obtain ⟨cl, A, r⟩ := F; exact ⟨cl, A.ext E, r⟩
theorem Ary.other {sl : Nat} {v : Value} (F : Ary Z h b k ty n f) (W : Wr h h' a sl v) (q : b ≠ a) : Ary Z h' b k ty n f := by obtain ⟨cl, A, r⟩ := F; exact ⟨cl, A.other W q, r⟩
theorem Ary.keep {ws : List Addr} (F : Ary Z h a k ty n f) (K : Keep h h' ws) (q : a ∉ ws) : Ary Z h' a k ty n f := by obtain ⟨cl, A, r⟩ := F; exact ⟨cl, ⟨K.2.1 a cl A.1 q, A.2⟩, r⟩
theorem Ary.new (A : Arr Z h a (newA k ty n) ty) (q : ¬ n < 0) : Ary Z h a k ty n (fun _ => defaultValue ty) :=
  ⟨_, A, rfl, sz_new _ _ _, q, fun j h1 h2 => get_new (by rw [← sz_new k ty n]; exact inb_of (sz_new k ty n) ⟨h1, h2⟩)⟩
theorem Ary.eq {g : Int32 → Value} (F : Ary Z h a k ty n f) (q : ∀ j : Int32, ¬ j < 0 → j < n → f j = g j) : Ary Z h a k ty n g := by
  obtain ⟨cl, A, r1, r2, r3, r4⟩ := F; exact ⟨cl, A, r1, r2, r3, fun j h1 h2 => (r4 j h1 h2).trans (congrArg some (q j h1 h2))⟩
theorem evalEq {args : Array Value} {first s : State} {o : Option Outcome} {idx : List Nat} {t u : Jvm.Term} {v : Value} (h : (Jvm.Cond.eq t u).value args first o s idx = some true) (hu : u.eval args first o idx s = some v) : t.eval args first o idx s = some v := by
  simp only [Cond.value, hu] at h
  cases ht : t.eval args first o idx s with
  | none => simp [ht] at h
  | some w => cases w <;> cases v <;> simp [ht] at h <;> simp [h]
theorem evalLen {args : Array Value} {first s : State} {o : Option Outcome} {idx : List Nat} {t : Jvm.Term} {x : Addr} {cl : Cell} {z : Int32} (h : (Jvm.Term.length t).eval args first o idx s = some (.int z)) (ht : t.eval args first o idx s = some (.ref x)) (A : Arr s s.heap x cl ty) : cl.slots.size = z.toNatClampNeg ∧ ¬ z < 0 := by
  have ha := A.fin (U := s) (Vm.Alike.refl _)
  simp only [Term.eval, ht, ha, Option.bind_eq_bind, Option.bind_some] at h
  by_cases hl : cl.slots.size < 2 ^ 31
  · simp [hl] at h
    subst h
    have e : cl.slots.size.toInt32.toInt = cl.slots.size := len_toInt hl
    refine ⟨by simp only [Int32.toNatClampNeg, e]; rfl, ?_⟩
    rw [Int32.lt_iff_toInt_lt, e]; exact Int.not_lt.mpr (Int.natCast_nonneg _)
  · simp [hl] at h
theorem Ary.start {cl : Cell} (A : Arr Z h a cl ty) (r2 : cl.slots.size = n.toNatClampNeg) (r3 : ¬ n < 0) (r4 : ∀ i : Nat, i < n.toNatClampNeg → cl.slots[i]? = some (f (Int32.ofNat i))) : Ary Z h a cl.cls ty n f := by
  refine ⟨cl, A, rfl, r2, r3, fun j h1 h2 => ?_⟩
  have e := back32 h1
  have q := r4 j.toNatClampNeg (by
    rw [Int32.lt_iff_toInt_lt] at h1 h2
    rw [show (0 : Int32).toInt = 0 from rfl] at h1
    simp only [Int32.toNatClampNeg]; omega)
  rw [q]; exact congrArg (fun z => some (f z)) e.1
theorem clamp_inj {i j : Int32} (hi : ¬ i < 0) (hj : ¬ j < 0) (q : i.toNatClampNeg = j.toNatClampNeg) : i = j := by
  rw [Int32.lt_iff_toInt_lt, show (0 : Int32).toInt = 0 from rfl] at hi hj
  apply Int32.toInt_inj.mp
  have e1 : i.toNatClampNeg = i.toInt.toNat := rfl
  have e2 : j.toNatClampNeg = j.toInt.toNat := rfl
  omega
theorem Ary.set {cl : Cell} {i : Int32} {v : Value} (A : Arr Z h a cl ty) (r1 : cl.cls = k) (r2 : cl.slots.size = n.toNatClampNeg) (r3 : ¬ n < 0) (r4 : ∀ j : Int32, ¬ j < 0 → j < n → cl.slots[j.toNatClampNeg]? = some (f j)) (hi : ¬ i < 0) (hn : i < n) (W : Wr h h' a i.toNatClampNeg v) : Ary Z h' a k ty n (fun j => if j = i then v else f j) := by
  refine ⟨_, A.same W, r1, (sz_set _ _ _).trans r2, r3, fun j h1 h2 => ?_⟩
  by_cases q : j = i
  · exact (get_hit (inb_of r2 ⟨hi, hn⟩) q).trans (congrArg some (if_pos q).symm)
  · exact ((get_miss hi h1 q).trans (r4 j h1 h2)).trans (congrArg some (if_neg q).symm)
end
section
variable {p : Program} {l : Launch} {e : Env} {R : Room} {s : State} {m : MethodId} {args : Array Value} {below : List Frame} {meth : Method} {c : Code} {T : State} {locs : List Loc} {cells slots : Nat} {C S : Nat} {Q : Option Value → Heap → List Loc → Prop} {pc q : Nat} {Ls : Array Slot} {st : List Value} {Z : State} {h : Heap} {a : Addr} {k : ClassId} {n j : Int32} {f : Int32 → Value}

theorem alen (X : Stand p l e R s m args below meth c T locs cells slots) (hx : p.tables.exec = Jvm.exec) (hZ : Z.Warmed39 s.vm) (eT : T.heap = h) {ty : FieldType} (F : Ary Z h a k ty n f) (hd : decode c.code pc = .ok (.arraylength, 1)) (hq : pc + 1 = q) (kk : Ends p l e R s m args below meth c C S Q T (mkF m q Ls (.int n :: st))) : Ends p l e R s m args below meth c C S Q T (mkF m pc Ls (.ref a :: st)) := by
  obtain ⟨cl, A, r1, r2, r3, r4⟩ := F
  subst hq
  exact step (fun t h => X.arraylength hx (by rw [eT]; exact A.1) (State.isArrayOf_alike hZ.alike A.2.1) (g := mkF m pc Ls (.ref a :: st)) rfl rfl hd t (by rw [len_of r2 r3]; exact h)) kk
theorem iaload (X : Stand p l e R s m args below meth c T locs cells slots) (hx : p.tables.exec = Jvm.exec) (hZ : Z.Warmed39 s.vm) (eT : T.heap = h) (F : Ary Z h a k .int n f) (h1 : ¬ j < 0) (h2 : j < n) {v : Value} (hv : f j = v) (hd : decode c.code pc = .ok (.iaload, 1)) (hq : pc + 1 = q) (kk : Ends p l e R s m args below meth c C S Q T (mkF m q Ls (v :: st))) : Ends p l e R s m args below meth c C S Q T (mkF m pc Ls (.int j :: .ref a :: st)) := by
  obtain ⟨cl, A, r1, r2, r3, r4⟩ := F
  subst hq hv
  exact step (fun t h => X.iaload hx (by rw [eT]; exact A.1) (State.isArrayOf_alike hZ.alike A.2.1) A.2.2 (inb_of r2 ⟨h1, h2⟩) (r4 j h1 h2) (g := mkF m pc Ls (.int j :: .ref a :: st)) rfl rfl hd t h) kk
theorem laload (X : Stand p l e R s m args below meth c T locs cells slots) (hx : p.tables.exec = Jvm.exec) (hZ : Z.Warmed39 s.vm) (eT : T.heap = h) (F : Ary Z h a k .long n f) (h1 : ¬ j < 0) (h2 : j < n) {v : Value} (hv : f j = v) (hd : decode c.code pc = .ok (.laload, 1)) (hq : pc + 1 = q) (kk : Ends p l e R s m args below meth c C S Q T (mkF m q Ls (v :: st))) : Ends p l e R s m args below meth c C S Q T (mkF m pc Ls (.int j :: .ref a :: st)) := by
  obtain ⟨cl, A, r1, r2, r3, r4⟩ := F
  subst hq hv
  exact step (fun t h => X.laload hx (by rw [eT]; exact A.1) (State.isArrayOf_alike hZ.alike A.2.1) A.2.2 (inb_of r2 ⟨h1, h2⟩) (r4 j h1 h2) (g := mkF m pc Ls (.int j :: .ref a :: st)) rfl rfl hd t h) kk
theorem caload (X : Stand p l e R s m args below meth c T locs cells slots) (hx : p.tables.exec = Jvm.exec) (hZ : Z.Warmed39 s.vm) (eT : T.heap = h) (F : Ary Z h a k .char n f) (h1 : ¬ j < 0) (h2 : j < n) {v : Value} (hv : f j = v) (hd : decode c.code pc = .ok (.caload, 1)) (hq : pc + 1 = q) (kk : Ends p l e R s m args below meth c C S Q T (mkF m q Ls (v :: st))) : Ends p l e R s m args below meth c C S Q T (mkF m pc Ls (.int j :: .ref a :: st)) := by
  obtain ⟨cl, A, r1, r2, r3, r4⟩ := F
  subst hq hv
  exact step (fun t h => X.caload hx (by rw [eT]; exact A.1) (State.isArrayOf_alike hZ.alike A.2.1) A.2.2 (inb_of r2 ⟨h1, h2⟩) (r4 j h1 h2) (g := mkF m pc Ls (.int j :: .ref a :: st)) rfl rfl hd t h) kk
theorem baloadB (X : Stand p l e R s m args below meth c T locs cells slots) (hx : p.tables.exec = Jvm.exec) (hZ : Z.Warmed39 s.vm) (eT : T.heap = h) (F : Ary Z h a k .byte n f) (h1 : ¬ j < 0) (h2 : j < n) {v : Value} (hv : f j = v) (hd : decode c.code pc = .ok (.baload, 1)) (hq : pc + 1 = q) (kk : Ends p l e R s m args below meth c C S Q T (mkF m q Ls (v :: st))) : Ends p l e R s m args below meth c C S Q T (mkF m pc Ls (.int j :: .ref a :: st)) := by
  obtain ⟨cl, A, r1, r2, r3, r4⟩ := F
  subst hq hv
  exact step (fun t h => X.baloadBytes hx (by rw [eT]; exact A.1) (State.isArrayOf_alike hZ.alike A.2.1) A.2.2 (inb_of r2 ⟨h1, h2⟩) (r4 j h1 h2) (g := mkF m pc Ls (.int j :: .ref a :: st)) rfl rfl hd t h) kk
theorem baloadZ (X : Stand p l e R s m args below meth c T locs cells slots) (hx : p.tables.exec = Jvm.exec) (hZ : Z.Warmed39 s.vm) (eT : T.heap = h) (F : Ary Z h a k .boolean n f) (h1 : ¬ j < 0) (h2 : j < n) {v : Value} (hv : f j = v) (hd : decode c.code pc = .ok (.baload, 1)) (hq : pc + 1 = q) (kk : Ends p l e R s m args below meth c C S Q T (mkF m q Ls (v :: st))) : Ends p l e R s m args below meth c C S Q T (mkF m pc Ls (.int j :: .ref a :: st)) := by
  obtain ⟨cl, A, r1, r2, r3, r4⟩ := F
  subst hq hv
  exact step (fun t h => X.baloadBooleans hx (by rw [eT]; exact A.1) (State.isArrayOf_alike hZ.alike A.2.1) A.2.2 (inb_of r2 ⟨h1, h2⟩) (r4 j h1 h2) (g := mkF m pc Ls (.int j :: .ref a :: st)) rfl rfl hd t h) kk
theorem aaload (X : Stand p l e R s m args below meth c T locs cells slots) (hx : p.tables.exec = Jvm.exec) (hZ : Z.Warmed39 s.vm) (eT : T.heap = h) {ty : FieldType} (hty : ty.isReference = true) (F : Ary Z h a k ty n f) (h1 : ¬ j < 0) (h2 : j < n) {v : Value} (hv : f j = v) (hd : decode c.code pc = .ok (.aaload, 1)) (hq : pc + 1 = q) (kk : Ends p l e R s m args below meth c C S Q T (mkF m q Ls (v :: st))) : Ends p l e R s m args below meth c C S Q T (mkF m pc Ls (.int j :: .ref a :: st)) := by
  obtain ⟨cl, A, r1, r2, r3, r4⟩ := F
  subst hq hv
  exact step (fun t h => X.aaload hx (by rw [eT]; exact A.1) (State.isArrayOf_alike hZ.alike A.2.1) hty A.2.2 (inb_of r2 ⟨h1, h2⟩) (r4 j h1 h2) (g := mkF m pc Ls (.int j :: .ref a :: st)) rfl rfl hd t h) kk
theorem iastore (X : Stand p l e R s m args below meth c T locs cells slots) (hx : p.tables.exec = Jvm.exec) (hZ : Z.Warmed39 s.vm) (eT : T.heap = h) (F : Ary Z h a k .int n f) {x : Int32} (h1 : ¬ j < 0) (h2 : j < n) (hd : decode c.code pc = .ok (.iastore, 1)) (hq : pc + 1 = q)
    (kk : ∀ (T' : State) (h' : Heap), Stand p l e R s m args below meth c T' (locs ++ [⟨a, j.toNatClampNeg⟩]) cells slots → T'.heap = h' → Wr h h' a j.toNatClampNeg (.int x) → Ary Z h' a k .int n (fun i => if i = j then .int x else f i) → Ends p l e R s m args below meth c C S Q T' (mkF m q Ls st)) : Ends p l e R s m args below meth c C S Q T (mkF m pc Ls (.int x :: .int j :: .ref a :: st)) := by
  obtain ⟨cl, A, r1, r2, r3, r4⟩ := F
  obtain ⟨T', h', X', e', W', stp⟩ := stI X hx hZ eT A (j := j) (x := x) (inb_of r2 ⟨h1, h2⟩) (g := mkF m pc Ls (.int x :: .int j :: .ref a :: st)) rfl rfl hd
  subst hq
  exact step stp (kk T' h' X' e' W' (Ary.set A r1 r2 r3 r4 h1 h2 W'))
theorem lastore (X : Stand p l e R s m args below meth c T locs cells slots) (hx : p.tables.exec = Jvm.exec) (hZ : Z.Warmed39 s.vm) (eT : T.heap = h) (F : Ary Z h a k .long n f) {x : Int64} (h1 : ¬ j < 0) (h2 : j < n) (hd : decode c.code pc = .ok (.lastore, 1)) (hq : pc + 1 = q)
    (kk : ∀ (T' : State) (h' : Heap), Stand p l e R s m args below meth c T' (locs ++ [⟨a, j.toNatClampNeg⟩]) cells slots → T'.heap = h' → Wr h h' a j.toNatClampNeg (.long x) → Ary Z h' a k .long n (fun i => if i = j then .long x else f i) → Ends p l e R s m args below meth c C S Q T' (mkF m q Ls st)) : Ends p l e R s m args below meth c C S Q T (mkF m pc Ls (.long x :: .int j :: .ref a :: st)) := by
  obtain ⟨cl, A, r1, r2, r3, r4⟩ := F
  obtain ⟨T', h', X', e', W', stp⟩ := stJ X hx hZ eT A (j := j) (x := x) (inb_of r2 ⟨h1, h2⟩) (g := mkF m pc Ls (.long x :: .int j :: .ref a :: st)) rfl rfl hd
  subst hq
  exact step stp (kk T' h' X' e' W' (Ary.set A r1 r2 r3 r4 h1 h2 W'))
theorem castore (X : Stand p l e R s m args below meth c T locs cells slots) (hx : p.tables.exec = Jvm.exec) (hZ : Z.Warmed39 s.vm) (eT : T.heap = h) (F : Ary Z h a k .char n f) {x : Int32} (h1 : ¬ j < 0) (h2 : j < n) (hd : decode c.code pc = .ok (.castore, 1)) (hq : pc + 1 = q)
    (kk : ∀ (T' : State) (h' : Heap), Stand p l e R s m args below meth c T' (locs ++ [⟨a, j.toNatClampNeg⟩]) cells slots → T'.heap = h' → Wr h h' a j.toNatClampNeg (.int (nar .char x)) → Ary Z h' a k .char n (fun i => if i = j then .int (nar .char x) else f i) → Ends p l e R s m args below meth c C S Q T' (mkF m q Ls st)) : Ends p l e R s m args below meth c C S Q T (mkF m pc Ls (.int x :: .int j :: .ref a :: st)) := by
  obtain ⟨cl, A, r1, r2, r3, r4⟩ := F
  obtain ⟨T', h', X', e', W', stp⟩ := stC X hx hZ eT A (j := j) (x := x) (inb_of r2 ⟨h1, h2⟩) (g := mkF m pc Ls (.int x :: .int j :: .ref a :: st)) rfl rfl hd
  subst hq
  exact step stp (kk T' h' X' e' W' (Ary.set A r1 r2 r3 r4 h1 h2 W'))
theorem bastoreB (X : Stand p l e R s m args below meth c T locs cells slots) (hx : p.tables.exec = Jvm.exec) (hZ : Z.Warmed39 s.vm) (eT : T.heap = h) (F : Ary Z h a k .byte n f) {x : Int32} (h1 : ¬ j < 0) (h2 : j < n) (hd : decode c.code pc = .ok (.bastore, 1)) (hq : pc + 1 = q)
    (kk : ∀ (T' : State) (h' : Heap), Stand p l e R s m args below meth c T' (locs ++ [⟨a, j.toNatClampNeg⟩]) cells slots → T'.heap = h' → Wr h h' a j.toNatClampNeg (.int (nar .byte x)) → Ary Z h' a k .byte n (fun i => if i = j then .int (nar .byte x) else f i) → Ends p l e R s m args below meth c C S Q T' (mkF m q Ls st)) : Ends p l e R s m args below meth c C S Q T (mkF m pc Ls (.int x :: .int j :: .ref a :: st)) := by
  obtain ⟨cl, A, r1, r2, r3, r4⟩ := F
  obtain ⟨T', h', X', e', W', stp⟩ := stB X hx hZ eT A (j := j) (x := x) (inb_of r2 ⟨h1, h2⟩) (g := mkF m pc Ls (.int x :: .int j :: .ref a :: st)) rfl rfl hd
  subst hq
  exact step stp (kk T' h' X' e' W' (Ary.set A r1 r2 r3 r4 h1 h2 W'))
theorem bastoreZ (X : Stand p l e R s m args below meth c T locs cells slots) (hx : p.tables.exec = Jvm.exec) (hZ : Z.Warmed39 s.vm) (eT : T.heap = h) (F : Ary Z h a k .boolean n f) {x : Int32} (h1 : ¬ j < 0) (h2 : j < n) (hd : decode c.code pc = .ok (.bastore, 1)) (hq : pc + 1 = q)
    (kk : ∀ (T' : State) (h' : Heap), Stand p l e R s m args below meth c T' (locs ++ [⟨a, j.toNatClampNeg⟩]) cells slots → T'.heap = h' → Wr h h' a j.toNatClampNeg (.int (nar .boolean x)) → Ary Z h' a k .boolean n (fun i => if i = j then .int (nar .boolean x) else f i) → Ends p l e R s m args below meth c C S Q T' (mkF m q Ls st)) : Ends p l e R s m args below meth c C S Q T (mkF m pc Ls (.int x :: .int j :: .ref a :: st)) := by
  obtain ⟨cl, A, r1, r2, r3, r4⟩ := F
  obtain ⟨T', h', X', e', W', stp⟩ := stZ X hx hZ eT A (j := j) (x := x) (inb_of r2 ⟨h1, h2⟩) (g := mkF m pc Ls (.int x :: .int j :: .ref a :: st)) rfl rfl hd
  subst hq
  exact step stp (kk T' h' X' e' W' (Ary.set A r1 r2 r3 r4 h1 h2 W'))
theorem aastore (X : Stand p l e R s m args below meth c T locs cells slots) (hx : p.tables.exec = Jvm.exec) (hZ : Z.Warmed39 s.vm) (eT : T.heap = h) {K : String} (F : Ary Z h a k (.object K) n f) (O : Ovr Z k K) {b : Addr} (I : Ins Z h b K true) (h1 : ¬ j < 0) (h2 : j < n) (hd : decode c.code pc = .ok (.aastore, 1)) (hq : pc + 1 = q)
    (kk : ∀ (T' : State) (h' : Heap), Stand p l e R s m args below meth c T' (locs ++ [⟨a, j.toNatClampNeg⟩]) cells slots → T'.heap = h' → Wr h h' a j.toNatClampNeg (.ref b) → Ary Z h' a k (.object K) n (fun i => if i = j then .ref b else f i) → Ends p l e R s m args below meth c C S Q T' (mkF m q Ls st)) : Ends p l e R s m args below meth c C S Q T (mkF m pc Ls (.ref b :: .int j :: .ref a :: st)) := by
  obtain ⟨cl, A, r1, r2, r3, r4⟩ := F
  subst r1
  obtain ⟨T', h', X', e', W', stp⟩ := stR X hx hZ eT A (j := j) (v := .ref b) (inb_of r2 ⟨h1, h2⟩) rfl (Sto.of A O I) (g := mkF m pc Ls (.ref b :: .int j :: .ref a :: st)) rfl rfl hd
  subst hq
  exact step stp (kk T' h' X' e' W' (Ary.set A rfl r2 r3 r4 h1 h2 W'))
theorem newarr (X : Stand p l e R s m args below meth c T locs cells slots) (hx : p.tables.exec = Jvm.exec) (hZ : Z.Warmed39 s.vm) {a0 : Array Value} (eT : T.heap = h) {aty : ArrayType} (w : (Jvm.Cond.arrayClass (newarray.typeOf aty)).before a0 Z = true) (hn : ¬ n < 0) {cap : Nat} (hcap : n.toNatClampNeg ≤ cap) (hb : cap * 8 ≤ 536870912) (hc : cells + 1 ≤ R.cells) (hl : slots + cap ≤ R.slots) (hd : decode c.code pc = .ok (.newarray aty, 2)) (hq : pc + 2 = q)
    (kk : ∀ (T' : State) (h' : Heap) (b : Addr) (k : ClassId), Stand p l e R s m args below meth c T' locs (cells + 1) (slots + cap) → T'.heap = h' → Ext h h' → b = h.size → Ary Z h' b k (newarray.typeOf aty) n (fun _ => defaultValue (newarray.typeOf aty)) → Ends p l e R s m args below meth c C S Q T' (mkF m q Ls (.ref b :: st))) : Ends p l e R s m args below meth c C S Q T (mkF m pc Ls (.int n :: st)) := by
  obtain ⟨T', h', k', X', e', E', A', stp⟩ := newP X hx hZ w eT (g := mkF m pc Ls (.int n :: st)) rfl hd rfl hn (cap := cap) hcap hb hc hl
  subst hq
  exact step stp (kk T' h' h.size k' X' e' E' rfl (Ary.new A' hn))
theorem newref (X : Stand p l e R s m args below meth c T locs cells slots) (hx : p.tables.exec = Jvm.exec) (hZ : Z.Warmed39 s.vm) {a0 : Array Value} {own K : String} {index : Nat} (hown : s.vm.findClass own = some m.cls) (eT : T.heap = h) (w1 : (Jvm.Cond.classLink own index K).before a0 Z = true) (w2 : (Jvm.Cond.arrayOver (.object K)).before a0 Z = true) (hn : ¬ n < 0) {cap : Nat} (hcap : n.toNatClampNeg ≤ cap) (hb : cap * 8 ≤ 536870912) (hc : cells + 1 ≤ R.cells) (hl : slots + cap ≤ R.slots) (hd : decode c.code pc = .ok (.anewarray index, 3)) (hq : pc + 3 = q)
    (kk : ∀ (T' : State) (h' : Heap) (b : Addr) (k : ClassId), Stand p l e R s m args below meth c T' locs (cells + 1) (slots + cap) → T'.heap = h' → Ext h h' → b = h.size → Ovr Z k K → Ary Z h' b k (.object K) n (fun _ => .null) → Ends p l e R s m args below meth c C S Q T' (mkF m q Ls (.ref b :: st))) : Ends p l e R s m args below meth c C S Q T (mkF m pc Ls (.int n :: st)) := by
  obtain ⟨T', h', k', X', e', E', A', O', stp⟩ := newR X hx hZ hown w1 w2 eT (g := mkF m pc Ls (.int n :: st)) rfl hd rfl hn (cap := cap) hcap hb hc hl
  subst hq
  exact step stp (kk T' h' h.size k' X' e' E' rfl O' (Ary.new A' hn))
end
end Jvm.EKit
namespace Jvm.Pilot.@@N@@
open Jvm Jvm.ClassFile Sem Op Lib Jvm.Free Jvm.Stand Jvm.LawKit Jvm.RoadKit Bundle Jvm.Pilot.@@N@@.Jvm.D Jvm.EKit
theorem own_eqI {args : Array Value} {first s : State} {o : Option Outcome} {idx : List Nat} {t : Jvm.Term} {k : Int32} (h : (Jvm.Cond.eq t (.int k)).value args first o s idx = some true) : t.eval args first o idx s = some (.int k) := by
  simp only [Cond.value, Term.int_eval] at h
  cases ht : t.eval args first o idx s with
  | none => simp [ht] at h
  | some v => cases v <;> simp [ht] at h; rw [h]
def own_pick (i : Int32) (w_READ : Addr) (w_WRITE : Addr) (w_CREATE_INDEX : Addr) (w_DELETE_INDEX : Addr) (w_MANAGE : Addr) (w_VIEW_INDEX_METADATA : Addr) (w_MONITOR : Addr) (w_CLUSTER_MONITOR : Addr) (w_CLUSTER_MANAGE : Addr) : Addr := if i = 0 then w_READ else if i = 1 then w_WRITE else if i = 2 then w_CREATE_INDEX else if i = 3 then w_DELETE_INDEX else if i = 4 then w_MANAGE else if i = 5 then w_VIEW_INDEX_METADATA else if i = 6 then w_MONITOR else if i = 7 then w_CLUSTER_MONITOR else w_CLUSTER_MANAGE
theorem own_exa {Z : State} {h0 : Heap} (i : Int32) (w_READ : Addr) (w_WRITE : Addr) (w_CREATE_INDEX : Addr) (w_DELETE_INDEX : Addr) (w_MANAGE : Addr) (w_VIEW_INDEX_METADATA : Addr) (w_MONITOR : Addr) (w_CLUSTER_MONITOR : Addr) (w_CLUSTER_MANAGE : Addr) (E_READ : Exa Z h0 w_READ "com/example/indexwarden/indexwarden/Privilege") (E_WRITE : Exa Z h0 w_WRITE "com/example/indexwarden/indexwarden/Privilege") (E_CREATE_INDEX : Exa Z h0 w_CREATE_INDEX "com/example/indexwarden/indexwarden/Privilege") (E_DELETE_INDEX : Exa Z h0 w_DELETE_INDEX "com/example/indexwarden/indexwarden/Privilege") (E_MANAGE : Exa Z h0 w_MANAGE "com/example/indexwarden/indexwarden/Privilege") (E_VIEW_INDEX_METADATA : Exa Z h0 w_VIEW_INDEX_METADATA "com/example/indexwarden/indexwarden/Privilege") (E_MONITOR : Exa Z h0 w_MONITOR "com/example/indexwarden/indexwarden/Privilege") (E_CLUSTER_MONITOR : Exa Z h0 w_CLUSTER_MONITOR "com/example/indexwarden/indexwarden/Privilege") (E_CLUSTER_MANAGE : Exa Z h0 w_CLUSTER_MANAGE "com/example/indexwarden/indexwarden/Privilege") : Exa Z h0 (own_pick i w_READ w_WRITE w_CREATE_INDEX w_DELETE_INDEX w_MANAGE w_VIEW_INDEX_METADATA w_MONITOR w_CLUSTER_MONITOR w_CLUSTER_MANAGE) "com/example/indexwarden/indexwarden/Privilege" :=
  EKit.iteP (P := fun a => Exa Z h0 a "com/example/indexwarden/indexwarden/Privilege") E_READ (EKit.iteP (P := fun a => Exa Z h0 a "com/example/indexwarden/indexwarden/Privilege") E_WRITE (EKit.iteP (P := fun a => Exa Z h0 a "com/example/indexwarden/indexwarden/Privilege") E_CREATE_INDEX (EKit.iteP (P := fun a => Exa Z h0 a "com/example/indexwarden/indexwarden/Privilege") E_DELETE_INDEX (EKit.iteP (P := fun a => Exa Z h0 a "com/example/indexwarden/indexwarden/Privilege") E_MANAGE (EKit.iteP (P := fun a => Exa Z h0 a "com/example/indexwarden/indexwarden/Privilege") E_VIEW_INDEX_METADATA (EKit.iteP (P := fun a => Exa Z h0 a "com/example/indexwarden/indexwarden/Privilege") E_MONITOR (EKit.iteP (P := fun a => Exa Z h0 a "com/example/indexwarden/indexwarden/Privilege") E_CLUSTER_MONITOR (E_CLUSTER_MANAGE))))))))
theorem own_at (j : Int32) (w_READ : Addr) (w_WRITE : Addr) (w_CREATE_INDEX : Addr) (w_DELETE_INDEX : Addr) (w_MANAGE : Addr) (w_VIEW_INDEX_METADATA : Addr) (w_MONITOR : Addr) (w_CLUSTER_MONITOR : Addr) (w_CLUSTER_MANAGE : Addr) (hj : j = 0 ∨ j = 1 ∨ j = 2 ∨ j = 3 ∨ j = 4 ∨ j = 5 ∨ j = 6 ∨ j = 7 ∨ j = 8) : (if j = 8 then .ref w_CLUSTER_MANAGE else if j = 7 then .ref w_CLUSTER_MONITOR else if j = 6 then .ref w_MONITOR else if j = 5 then .ref w_VIEW_INDEX_METADATA else if j = 4 then .ref w_MANAGE else if j = 3 then .ref w_DELETE_INDEX else if j = 2 then .ref w_CREATE_INDEX else if j = 1 then .ref w_WRITE else if j = 0 then .ref w_READ else .null : Value) = .ref (own_pick j w_READ w_WRITE w_CREATE_INDEX w_DELETE_INDEX w_MANAGE w_VIEW_INDEX_METADATA w_MONITOR w_CLUSTER_MONITOR w_CLUSTER_MANAGE) := by
  rcases hj with rfl | rfl | rfl | rfl | rfl | rfl | rfl | rfl | rfl <;> simp [own_pick]
def own_nar (a u0 u1 u2 : Addr) : Int32 := if a = u0 ∨ a = u1 ∨ a = u2 then 1 else 0
theorem ef_rm1 (m : MethodId) (x0 : Addr) : entryFrame m #[(.ref x0)] 1 = mkF m 0 #[.val (.ref x0)] [] := by first | (simp [entryFrame, mkF, argsToLocals, Value.category]; done) | rfl
theorem pn_com_example_indexwarden_indexwarden_Privilege : plainName "com/example/indexwarden/indexwarden/Privilege" = true := by first | (simp [plainName, overriddenIn]; done) | decide +kernel
theorem d1_0 : decode prog_51_method_7_code 0 = .ok (.aload_n 0, 1) := by decide +kernel
theorem d1_1 : decode prog_51_method_7_code 1 = .ok (.getstatic 3, 3) := by decide +kernel
theorem d1_4 : decode prog_51_method_7_code 4 = .ok (.if_acmp .eq 17, 3) := by decide +kernel
theorem d1_21 : decode prog_51_method_7_code 21 = .ok (.iconst 1, 1) := by decide +kernel
theorem d1_22 : decode prog_51_method_7_code 22 = .ok (.goto 4, 3) := by decide +kernel
theorem d1_26 : decode prog_51_method_7_code 26 = .ok (.ireturn, 1) := by decide +kernel
theorem d1_7 : decode prog_51_method_7_code 7 = .ok (.aload_n 0, 1) := by decide +kernel
theorem d1_8 : decode prog_51_method_7_code 8 = .ok (.getstatic 19, 3) := by decide +kernel
theorem d1_11 : decode prog_51_method_7_code 11 = .ok (.if_acmp .eq 10, 3) := by decide +kernel
theorem d1_14 : decode prog_51_method_7_code 14 = .ok (.aload_n 0, 1) := by decide +kernel
theorem d1_15 : decode prog_51_method_7_code 15 = .ok (.getstatic 22, 3) := by decide +kernel
theorem d1_18 : decode prog_51_method_7_code 18 = .ok (.if_acmp .ne 7, 3) := by decide +kernel
theorem d1_25 : decode prog_51_method_7_code 25 = .ok (.iconst 0, 1) := by decide +kernel
set_option maxRecDepth 65536 in
set_option maxHeartbeats 40000000 in
theorem rm1 (l : Launch) (Z : State) (a0 : Array Value) (hw : ∀ d ∈ tables_1, d.before a0 Z = true) (ws : List Jvm.Cond) (r0 : Addr) (h0 : Heap) (w_READ w_VIEW_INDEX_METADATA w_MONITOR : Addr) (S_READ : Sta Z h0 "com/example/indexwarden/indexwarden/Privilege" "READ" "Lcom/example/indexwarden/indexwarden/Privilege;" (.ref w_READ)) (S_VIEW_INDEX_METADATA : Sta Z h0 "com/example/indexwarden/indexwarden/Privilege" "VIEW_INDEX_METADATA" "Lcom/example/indexwarden/indexwarden/Privilege;" (.ref w_VIEW_INDEX_METADATA)) (S_MONITOR : Sta Z h0 "com/example/indexwarden/indexwarden/Privilege" "MONITOR" "Lcom/example/indexwarden/indexwarden/Privilege;" (.ref w_MONITOR)) :
    Pays l Z (⟨"com/example/indexwarden/indexwarden/Privilege", "narrows", "()Z"⟩ : MethodName) prog_51_method_7_code 1 (some .boolean) ws ({ frames := 0, cells := 0, slots := 0, locals := 0 } : Room) #[(.ref r0)] h0 (RetQ (some (.int (own_nar r0 w_READ w_VIEW_INDEX_METADATA w_MONITOR))) h0) := by
  refine EKit.pays (plainFor_of_name pn_com_example_indexwarden_indexwarden_Privilege) (fun m => ef_rm1 m r0) ?_
  intro p e s m below meth c s₁ hx hby hml hZ hown hnm hret X0 e0 hs0
  refine EKit.aloadN X0 hx rfl rfl (hb hby d1_0) (q := 1) rfl ?_
  obtain ⟨T1, X1, e1, st1⟩ := getS X0 hx hZ (host := "") hown (hw _ (List.mem_of_getElem? (i := 29) rfl)) Via.refl e0 S_READ (g := (mkF m 1 #[.val (.ref r0)] [(.ref r0)])) rfl (hb hby d1_1)
  refine EKit.step st1 ?_
  show EKit.Ends p l e ({ frames := 0, cells := 0, slots := 0, locals := 0 } : Room) s m #[(.ref r0)] below meth c ({ frames := 0, cells := 0, slots := 0, locals := 0 } : Room).cells ({ frames := 0, cells := 0, slots := 0, locals := 0 } : Room).slots (RetQ (some (.int (own_nar r0 w_READ w_VIEW_INDEX_METADATA w_MONITOR))) h0) T1 (mkF m 4 #[.val (.ref r0)] [(.ref w_READ), (.ref r0)])
  by_cases h4 : r0 = w_READ
  · skip
    refine EKit.acmp X1 hx rfl rfl (same := true) (EKit.rr_t h4) (hb hby d1_4) (by decide) (q := 21) (by decide) ?_
    refine EKit.iconst X1 hx (v := (1 : Int32)) rfl (hb hby d1_21) (q := 22) rfl ?_
    refine EKit.goto X1 hx (hb hby d1_22) (by decide) (q := 26) (by decide) ?_
    exact EKit.retZ X1 hx hret (by simp) (hb hby d1_26) (⟨congrArg (fun z => some (Value.int z)) (show nar .boolean (1 : Int32) = own_nar r0 w_READ w_VIEW_INDEX_METADATA w_MONITOR from by simp [own_nar, h4] <;> decide), e1, rfl⟩) (by decide) (by decide)
  · skip
    refine EKit.acmp X1 hx rfl rfl (same := false) (EKit.rr_f h4) (hb hby d1_4) (by decide) (q := 7) (by decide) ?_
    refine EKit.aloadN X1 hx rfl rfl (hb hby d1_7) (q := 8) rfl ?_
    obtain ⟨T2, X2, e2, st2⟩ := getS X1 hx hZ (host := "") hown (hw _ (List.mem_of_getElem? (i := 37) rfl)) Via.refl e1 S_VIEW_INDEX_METADATA (g := (mkF m 8 #[.val (.ref r0)] [(.ref r0)])) rfl (hb hby d1_8)
    refine EKit.step st2 ?_
    show EKit.Ends p l e ({ frames := 0, cells := 0, slots := 0, locals := 0 } : Room) s m #[(.ref r0)] below meth c ({ frames := 0, cells := 0, slots := 0, locals := 0 } : Room).cells ({ frames := 0, cells := 0, slots := 0, locals := 0 } : Room).slots (RetQ (some (.int (own_nar r0 w_READ w_VIEW_INDEX_METADATA w_MONITOR))) h0) T2 (mkF m 11 #[.val (.ref r0)] [(.ref w_VIEW_INDEX_METADATA), (.ref r0)])
    by_cases h11 : r0 = w_VIEW_INDEX_METADATA
    · skip
      refine EKit.acmp X2 hx rfl rfl (same := true) (EKit.rr_t h11) (hb hby d1_11) (by decide) (q := 21) (by decide) ?_
      refine EKit.iconst X2 hx (v := (1 : Int32)) rfl (hb hby d1_21) (q := 22) rfl ?_
      refine EKit.goto X2 hx (hb hby d1_22) (by decide) (q := 26) (by decide) ?_
      exact EKit.retZ X2 hx hret (by simp) (hb hby d1_26) (⟨congrArg (fun z => some (Value.int z)) (show nar .boolean (1 : Int32) = own_nar r0 w_READ w_VIEW_INDEX_METADATA w_MONITOR from by simp [own_nar, h4, h11] <;> decide), e2, rfl⟩) (by decide) (by decide)
    · skip
      refine EKit.acmp X2 hx rfl rfl (same := false) (EKit.rr_f h11) (hb hby d1_11) (by decide) (q := 14) (by decide) ?_
      refine EKit.aloadN X2 hx rfl rfl (hb hby d1_14) (q := 15) rfl ?_
      obtain ⟨T3, X3, e3, st3⟩ := getS X2 hx hZ (host := "") hown (hw _ (List.mem_of_getElem? (i := 38) rfl)) Via.refl e2 S_MONITOR (g := (mkF m 15 #[.val (.ref r0)] [(.ref r0)])) rfl (hb hby d1_15)
      refine EKit.step st3 ?_
      show EKit.Ends p l e ({ frames := 0, cells := 0, slots := 0, locals := 0 } : Room) s m #[(.ref r0)] below meth c ({ frames := 0, cells := 0, slots := 0, locals := 0 } : Room).cells ({ frames := 0, cells := 0, slots := 0, locals := 0 } : Room).slots (RetQ (some (.int (own_nar r0 w_READ w_VIEW_INDEX_METADATA w_MONITOR))) h0) T3 (mkF m 18 #[.val (.ref r0)] [(.ref w_MONITOR), (.ref r0)])
      by_cases h18 : r0 = w_MONITOR
      · skip
        refine EKit.acmp X3 hx rfl rfl (same := true) (EKit.rr_t h18) (hb hby d1_18) (by decide) (q := 21) (by decide) ?_
        refine EKit.iconst X3 hx (v := (1 : Int32)) rfl (hb hby d1_21) (q := 22) rfl ?_
        refine EKit.goto X3 hx (hb hby d1_22) (by decide) (q := 26) (by decide) ?_
        exact EKit.retZ X3 hx hret (by simp) (hb hby d1_26) (⟨congrArg (fun z => some (Value.int z)) (show nar .boolean (1 : Int32) = own_nar r0 w_READ w_VIEW_INDEX_METADATA w_MONITOR from by simp [own_nar, h4, h11, h18] <;> decide), e3, rfl⟩) (by decide) (by decide)
      · skip
        refine EKit.acmp X3 hx rfl rfl (same := false) (EKit.rr_f h18) (hb hby d1_18) (by decide) (q := 25) (by decide) ?_
        refine EKit.iconst X3 hx (v := (0 : Int32)) rfl (hb hby d1_25) (q := 26) rfl ?_
        exact EKit.retZ X3 hx hret (by simp) (hb hby d1_26) (⟨congrArg (fun z => some (Value.int z)) (show nar .boolean (0 : Int32) = own_nar r0 w_READ w_VIEW_INDEX_METADATA w_MONITOR from by simp [own_nar, h4, h11, h18] <;> decide), e3, rfl⟩) (by decide) (by decide)
def own_clu (a u0 u1 : Addr) : Int32 := if a = u0 ∨ a = u1 then 1 else 0
theorem ef_rm2 (m : MethodId) (x0 : Addr) : entryFrame m #[(.ref x0)] 1 = mkF m 0 #[.val (.ref x0)] [] := by first | (simp [entryFrame, mkF, argsToLocals, Value.category]; done) | rfl
theorem d2_0 : decode prog_51_method_8_code 0 = .ok (.aload_n 0, 1) := by decide +kernel
theorem d2_1 : decode prog_51_method_8_code 1 = .ok (.getstatic 25, 3) := by decide +kernel
theorem d2_4 : decode prog_51_method_8_code 4 = .ok (.if_acmp .eq 10, 3) := by decide +kernel
theorem d2_14 : decode prog_51_method_8_code 14 = .ok (.iconst 1, 1) := by decide +kernel
theorem d2_15 : decode prog_51_method_8_code 15 = .ok (.goto 4, 3) := by decide +kernel
theorem d2_19 : decode prog_51_method_8_code 19 = .ok (.ireturn, 1) := by decide +kernel
theorem d2_7 : decode prog_51_method_8_code 7 = .ok (.aload_n 0, 1) := by decide +kernel
theorem d2_8 : decode prog_51_method_8_code 8 = .ok (.getstatic 28, 3) := by decide +kernel
theorem d2_11 : decode prog_51_method_8_code 11 = .ok (.if_acmp .ne 7, 3) := by decide +kernel
theorem d2_18 : decode prog_51_method_8_code 18 = .ok (.iconst 0, 1) := by decide +kernel
set_option maxRecDepth 65536 in
set_option maxHeartbeats 40000000 in
theorem rm2 (l : Launch) (Z : State) (a0 : Array Value) (hw : ∀ d ∈ tables_1, d.before a0 Z = true) (ws : List Jvm.Cond) (r0 : Addr) (h0 : Heap) (w_CLUSTER_MONITOR w_CLUSTER_MANAGE : Addr) (S_CLUSTER_MONITOR : Sta Z h0 "com/example/indexwarden/indexwarden/Privilege" "CLUSTER_MONITOR" "Lcom/example/indexwarden/indexwarden/Privilege;" (.ref w_CLUSTER_MONITOR)) (S_CLUSTER_MANAGE : Sta Z h0 "com/example/indexwarden/indexwarden/Privilege" "CLUSTER_MANAGE" "Lcom/example/indexwarden/indexwarden/Privilege;" (.ref w_CLUSTER_MANAGE)) :
    Pays l Z (⟨"com/example/indexwarden/indexwarden/Privilege", "isClusterLevel", "()Z"⟩ : MethodName) prog_51_method_8_code 1 (some .boolean) ws ({ frames := 0, cells := 0, slots := 0, locals := 0 } : Room) #[(.ref r0)] h0 (RetQ (some (.int (own_clu r0 w_CLUSTER_MONITOR w_CLUSTER_MANAGE))) h0) := by
  refine EKit.pays (plainFor_of_name pn_com_example_indexwarden_indexwarden_Privilege) (fun m => ef_rm2 m r0) ?_
  intro p e s m below meth c s₁ hx hby hml hZ hown hnm hret X0 e0 hs0
  refine EKit.aloadN X0 hx rfl rfl (hb hby d2_0) (q := 1) rfl ?_
  obtain ⟨T1, X1, e1, st1⟩ := getS X0 hx hZ (host := "") hown (hw _ (List.mem_of_getElem? (i := 35) rfl)) Via.refl e0 S_CLUSTER_MONITOR (g := (mkF m 1 #[.val (.ref r0)] [(.ref r0)])) rfl (hb hby d2_1)
  refine EKit.step st1 ?_
  show EKit.Ends p l e ({ frames := 0, cells := 0, slots := 0, locals := 0 } : Room) s m #[(.ref r0)] below meth c ({ frames := 0, cells := 0, slots := 0, locals := 0 } : Room).cells ({ frames := 0, cells := 0, slots := 0, locals := 0 } : Room).slots (RetQ (some (.int (own_clu r0 w_CLUSTER_MONITOR w_CLUSTER_MANAGE))) h0) T1 (mkF m 4 #[.val (.ref r0)] [(.ref w_CLUSTER_MONITOR), (.ref r0)])
  by_cases h4 : r0 = w_CLUSTER_MONITOR
  · skip
    refine EKit.acmp X1 hx rfl rfl (same := true) (EKit.rr_t h4) (hb hby d2_4) (by decide) (q := 14) (by decide) ?_
    refine EKit.iconst X1 hx (v := (1 : Int32)) rfl (hb hby d2_14) (q := 15) rfl ?_
    refine EKit.goto X1 hx (hb hby d2_15) (by decide) (q := 19) (by decide) ?_
    exact EKit.retZ X1 hx hret (by simp) (hb hby d2_19) (⟨congrArg (fun z => some (Value.int z)) (show nar .boolean (1 : Int32) = own_clu r0 w_CLUSTER_MONITOR w_CLUSTER_MANAGE from by simp [own_clu, h4] <;> decide), e1, rfl⟩) (by decide) (by decide)
  · skip
    refine EKit.acmp X1 hx rfl rfl (same := false) (EKit.rr_f h4) (hb hby d2_4) (by decide) (q := 7) (by decide) ?_
    refine EKit.aloadN X1 hx rfl rfl (hb hby d2_7) (q := 8) rfl ?_
    obtain ⟨T2, X2, e2, st2⟩ := getS X1 hx hZ (host := "") hown (hw _ (List.mem_of_getElem? (i := 36) rfl)) Via.refl e1 S_CLUSTER_MANAGE (g := (mkF m 8 #[.val (.ref r0)] [(.ref r0)])) rfl (hb hby d2_8)
    refine EKit.step st2 ?_
    show EKit.Ends p l e ({ frames := 0, cells := 0, slots := 0, locals := 0 } : Room) s m #[(.ref r0)] below meth c ({ frames := 0, cells := 0, slots := 0, locals := 0 } : Room).cells ({ frames := 0, cells := 0, slots := 0, locals := 0 } : Room).slots (RetQ (some (.int (own_clu r0 w_CLUSTER_MONITOR w_CLUSTER_MANAGE))) h0) T2 (mkF m 11 #[.val (.ref r0)] [(.ref w_CLUSTER_MANAGE), (.ref r0)])
    by_cases h11 : r0 = w_CLUSTER_MANAGE
    · skip
      refine EKit.acmp X2 hx rfl rfl (same := true) (EKit.rr_t h11) (hb hby d2_11) (by decide) (q := 14) (by decide) ?_
      refine EKit.iconst X2 hx (v := (1 : Int32)) rfl (hb hby d2_14) (q := 15) rfl ?_
      refine EKit.goto X2 hx (hb hby d2_15) (by decide) (q := 19) (by decide) ?_
      exact EKit.retZ X2 hx hret (by simp) (hb hby d2_19) (⟨congrArg (fun z => some (Value.int z)) (show nar .boolean (1 : Int32) = own_clu r0 w_CLUSTER_MONITOR w_CLUSTER_MANAGE from by simp [own_clu, h4, h11] <;> decide), e2, rfl⟩) (by decide) (by decide)
    · skip
      refine EKit.acmp X2 hx rfl rfl (same := false) (EKit.rr_f h11) (hb hby d2_11) (by decide) (q := 18) (by decide) ?_
      refine EKit.iconst X2 hx (v := (0 : Int32)) rfl (hb hby d2_18) (q := 19) rfl ?_
      exact EKit.retZ X2 hx hret (by simp) (hb hby d2_19) (⟨congrArg (fun z => some (Value.int z)) (show nar .boolean (0 : Int32) = own_clu r0 w_CLUSTER_MONITOR w_CLUSTER_MANAGE from by simp [own_clu, h4, h11] <;> decide), e2, rfl⟩) (by decide) (by decide)
theorem own_ans1 (O : Addr → Option Value) (i : Int32) (w_READ : Addr) (w_WRITE : Addr) (w_CREATE_INDEX : Addr) (w_DELETE_INDEX : Addr) (w_MANAGE : Addr) (w_VIEW_INDEX_METADATA : Addr) (w_MONITOR : Addr) (w_CLUSTER_MONITOR : Addr) (w_CLUSTER_MANAGE : Addr) (O_READ : O w_READ = some (Value.int (0 : Int32))) (O_WRITE : O w_WRITE = some (Value.int (1 : Int32))) (O_CREATE_INDEX : O w_CREATE_INDEX = some (Value.int (2 : Int32))) (O_DELETE_INDEX : O w_DELETE_INDEX = some (Value.int (3 : Int32))) (O_MANAGE : O w_MANAGE = some (Value.int (4 : Int32))) (O_VIEW_INDEX_METADATA : O w_VIEW_INDEX_METADATA = some (Value.int (5 : Int32))) (O_MONITOR : O w_MONITOR = some (Value.int (6 : Int32))) (O_CLUSTER_MONITOR : O w_CLUSTER_MONITOR = some (Value.int (7 : Int32))) (O_CLUSTER_MANAGE : O w_CLUSTER_MANAGE = some (Value.int (8 : Int32))) (hi : i = 0 ∨ i = 1 ∨ i = 2 ∨ i = 3 ∨ i = 4 ∨ i = 5 ∨ i = 6 ∨ i = 7 ∨ i = 8) : own_nar (own_pick i w_READ w_WRITE w_CREATE_INDEX w_DELETE_INDEX w_MANAGE w_VIEW_INDEX_METADATA w_MONITOR w_CLUSTER_MONITOR w_CLUSTER_MANAGE) w_READ w_VIEW_INDEX_METADATA w_MONITOR = if i = 0 ∨ i = 5 ∨ i = 6 then 1 else 0 := by
  rcases hi with rfl | rfl | rfl | rfl | rfl | rfl | rfl | rfl | rfl
  · have q1 : ¬ w_READ = w_VIEW_INDEX_METADATA := (fun z => absurd (O_READ.symm.trans (z ▸ O_VIEW_INDEX_METADATA)) (by decide)); have q2 : ¬ w_READ = w_MONITOR := (fun z => absurd (O_READ.symm.trans (z ▸ O_MONITOR)) (by decide)); simp [own_nar, own_pick, q1, q2]
  · have q0 : ¬ w_WRITE = w_READ := (fun z => absurd (O_WRITE.symm.trans (z ▸ O_READ)) (by decide)); have q1 : ¬ w_WRITE = w_VIEW_INDEX_METADATA := (fun z => absurd (O_WRITE.symm.trans (z ▸ O_VIEW_INDEX_METADATA)) (by decide)); have q2 : ¬ w_WRITE = w_MONITOR := (fun z => absurd (O_WRITE.symm.trans (z ▸ O_MONITOR)) (by decide)); simp [own_nar, own_pick, q0, q1, q2]
  · have q0 : ¬ w_CREATE_INDEX = w_READ := (fun z => absurd (O_CREATE_INDEX.symm.trans (z ▸ O_READ)) (by decide)); have q1 : ¬ w_CREATE_INDEX = w_VIEW_INDEX_METADATA := (fun z => absurd (O_CREATE_INDEX.symm.trans (z ▸ O_VIEW_INDEX_METADATA)) (by decide)); have q2 : ¬ w_CREATE_INDEX = w_MONITOR := (fun z => absurd (O_CREATE_INDEX.symm.trans (z ▸ O_MONITOR)) (by decide)); simp [own_nar, own_pick, q0, q1, q2]
  · have q0 : ¬ w_DELETE_INDEX = w_READ := (fun z => absurd (O_DELETE_INDEX.symm.trans (z ▸ O_READ)) (by decide)); have q1 : ¬ w_DELETE_INDEX = w_VIEW_INDEX_METADATA := (fun z => absurd (O_DELETE_INDEX.symm.trans (z ▸ O_VIEW_INDEX_METADATA)) (by decide)); have q2 : ¬ w_DELETE_INDEX = w_MONITOR := (fun z => absurd (O_DELETE_INDEX.symm.trans (z ▸ O_MONITOR)) (by decide)); simp [own_nar, own_pick, q0, q1, q2]
  · have q0 : ¬ w_MANAGE = w_READ := (fun z => absurd (O_MANAGE.symm.trans (z ▸ O_READ)) (by decide)); have q1 : ¬ w_MANAGE = w_VIEW_INDEX_METADATA := (fun z => absurd (O_MANAGE.symm.trans (z ▸ O_VIEW_INDEX_METADATA)) (by decide)); have q2 : ¬ w_MANAGE = w_MONITOR := (fun z => absurd (O_MANAGE.symm.trans (z ▸ O_MONITOR)) (by decide)); simp [own_nar, own_pick, q0, q1, q2]
  · have q0 : ¬ w_VIEW_INDEX_METADATA = w_READ := (fun z => absurd (O_VIEW_INDEX_METADATA.symm.trans (z ▸ O_READ)) (by decide)); have q2 : ¬ w_VIEW_INDEX_METADATA = w_MONITOR := (fun z => absurd (O_VIEW_INDEX_METADATA.symm.trans (z ▸ O_MONITOR)) (by decide)); simp [own_nar, own_pick, q0, q2]
  · have q0 : ¬ w_MONITOR = w_READ := (fun z => absurd (O_MONITOR.symm.trans (z ▸ O_READ)) (by decide)); have q1 : ¬ w_MONITOR = w_VIEW_INDEX_METADATA := (fun z => absurd (O_MONITOR.symm.trans (z ▸ O_VIEW_INDEX_METADATA)) (by decide)); simp [own_nar, own_pick, q0, q1]
  · have q0 : ¬ w_CLUSTER_MONITOR = w_READ := (fun z => absurd (O_CLUSTER_MONITOR.symm.trans (z ▸ O_READ)) (by decide)); have q1 : ¬ w_CLUSTER_MONITOR = w_VIEW_INDEX_METADATA := (fun z => absurd (O_CLUSTER_MONITOR.symm.trans (z ▸ O_VIEW_INDEX_METADATA)) (by decide)); have q2 : ¬ w_CLUSTER_MONITOR = w_MONITOR := (fun z => absurd (O_CLUSTER_MONITOR.symm.trans (z ▸ O_MONITOR)) (by decide)); simp [own_nar, own_pick, q0, q1, q2]
  · have q0 : ¬ w_CLUSTER_MANAGE = w_READ := (fun z => absurd (O_CLUSTER_MANAGE.symm.trans (z ▸ O_READ)) (by decide)); have q1 : ¬ w_CLUSTER_MANAGE = w_VIEW_INDEX_METADATA := (fun z => absurd (O_CLUSTER_MANAGE.symm.trans (z ▸ O_VIEW_INDEX_METADATA)) (by decide)); have q2 : ¬ w_CLUSTER_MANAGE = w_MONITOR := (fun z => absurd (O_CLUSTER_MANAGE.symm.trans (z ▸ O_MONITOR)) (by decide)); simp [own_nar, own_pick, q0, q1, q2]
theorem own_ans2 (O : Addr → Option Value) (i : Int32) (w_READ : Addr) (w_WRITE : Addr) (w_CREATE_INDEX : Addr) (w_DELETE_INDEX : Addr) (w_MANAGE : Addr) (w_VIEW_INDEX_METADATA : Addr) (w_MONITOR : Addr) (w_CLUSTER_MONITOR : Addr) (w_CLUSTER_MANAGE : Addr) (O_READ : O w_READ = some (Value.int (0 : Int32))) (O_WRITE : O w_WRITE = some (Value.int (1 : Int32))) (O_CREATE_INDEX : O w_CREATE_INDEX = some (Value.int (2 : Int32))) (O_DELETE_INDEX : O w_DELETE_INDEX = some (Value.int (3 : Int32))) (O_MANAGE : O w_MANAGE = some (Value.int (4 : Int32))) (O_VIEW_INDEX_METADATA : O w_VIEW_INDEX_METADATA = some (Value.int (5 : Int32))) (O_MONITOR : O w_MONITOR = some (Value.int (6 : Int32))) (O_CLUSTER_MONITOR : O w_CLUSTER_MONITOR = some (Value.int (7 : Int32))) (O_CLUSTER_MANAGE : O w_CLUSTER_MANAGE = some (Value.int (8 : Int32))) (hi : i = 0 ∨ i = 1 ∨ i = 2 ∨ i = 3 ∨ i = 4 ∨ i = 5 ∨ i = 6 ∨ i = 7 ∨ i = 8) : own_clu (own_pick i w_READ w_WRITE w_CREATE_INDEX w_DELETE_INDEX w_MANAGE w_VIEW_INDEX_METADATA w_MONITOR w_CLUSTER_MONITOR w_CLUSTER_MANAGE) w_CLUSTER_MONITOR w_CLUSTER_MANAGE = if i = 7 ∨ i = 8 then 1 else 0 := by
  rcases hi with rfl | rfl | rfl | rfl | rfl | rfl | rfl | rfl | rfl
  · have q0 : ¬ w_READ = w_CLUSTER_MONITOR := (fun z => absurd (O_READ.symm.trans (z ▸ O_CLUSTER_MONITOR)) (by decide)); have q1 : ¬ w_READ = w_CLUSTER_MANAGE := (fun z => absurd (O_READ.symm.trans (z ▸ O_CLUSTER_MANAGE)) (by decide)); simp [own_clu, own_pick, q0, q1]
  · have q0 : ¬ w_WRITE = w_CLUSTER_MONITOR := (fun z => absurd (O_WRITE.symm.trans (z ▸ O_CLUSTER_MONITOR)) (by decide)); have q1 : ¬ w_WRITE = w_CLUSTER_MANAGE := (fun z => absurd (O_WRITE.symm.trans (z ▸ O_CLUSTER_MANAGE)) (by decide)); simp [own_clu, own_pick, q0, q1]
  · have q0 : ¬ w_CREATE_INDEX = w_CLUSTER_MONITOR := (fun z => absurd (O_CREATE_INDEX.symm.trans (z ▸ O_CLUSTER_MONITOR)) (by decide)); have q1 : ¬ w_CREATE_INDEX = w_CLUSTER_MANAGE := (fun z => absurd (O_CREATE_INDEX.symm.trans (z ▸ O_CLUSTER_MANAGE)) (by decide)); simp [own_clu, own_pick, q0, q1]
  · have q0 : ¬ w_DELETE_INDEX = w_CLUSTER_MONITOR := (fun z => absurd (O_DELETE_INDEX.symm.trans (z ▸ O_CLUSTER_MONITOR)) (by decide)); have q1 : ¬ w_DELETE_INDEX = w_CLUSTER_MANAGE := (fun z => absurd (O_DELETE_INDEX.symm.trans (z ▸ O_CLUSTER_MANAGE)) (by decide)); simp [own_clu, own_pick, q0, q1]
  · have q0 : ¬ w_MANAGE = w_CLUSTER_MONITOR := (fun z => absurd (O_MANAGE.symm.trans (z ▸ O_CLUSTER_MONITOR)) (by decide)); have q1 : ¬ w_MANAGE = w_CLUSTER_MANAGE := (fun z => absurd (O_MANAGE.symm.trans (z ▸ O_CLUSTER_MANAGE)) (by decide)); simp [own_clu, own_pick, q0, q1]
  · have q0 : ¬ w_VIEW_INDEX_METADATA = w_CLUSTER_MONITOR := (fun z => absurd (O_VIEW_INDEX_METADATA.symm.trans (z ▸ O_CLUSTER_MONITOR)) (by decide)); have q1 : ¬ w_VIEW_INDEX_METADATA = w_CLUSTER_MANAGE := (fun z => absurd (O_VIEW_INDEX_METADATA.symm.trans (z ▸ O_CLUSTER_MANAGE)) (by decide)); simp [own_clu, own_pick, q0, q1]
  · have q0 : ¬ w_MONITOR = w_CLUSTER_MONITOR := (fun z => absurd (O_MONITOR.symm.trans (z ▸ O_CLUSTER_MONITOR)) (by decide)); have q1 : ¬ w_MONITOR = w_CLUSTER_MANAGE := (fun z => absurd (O_MONITOR.symm.trans (z ▸ O_CLUSTER_MANAGE)) (by decide)); simp [own_clu, own_pick, q0, q1]
  · have q1 : ¬ w_CLUSTER_MONITOR = w_CLUSTER_MANAGE := (fun z => absurd (O_CLUSTER_MONITOR.symm.trans (z ▸ O_CLUSTER_MANAGE)) (by decide)); simp [own_clu, own_pick, q1]
  · have q0 : ¬ w_CLUSTER_MANAGE = w_CLUSTER_MONITOR := (fun z => absurd (O_CLUSTER_MANAGE.symm.trans (z ▸ O_CLUSTER_MONITOR)) (by decide)); simp [own_clu, own_pick, q0]
theorem own_r9 (x : Int32) : (x &&& 2147483647) % 9 = 0 ∨ (x &&& 2147483647) % 9 = 1 ∨ (x &&& 2147483647) % 9 = 2 ∨ (x &&& 2147483647) % 9 = 3 ∨ (x &&& 2147483647) % 9 = 4 ∨ (x &&& 2147483647) % 9 = 5 ∨ (x &&& 2147483647) % 9 = 6 ∨ (x &&& 2147483647) % 9 = 7 ∨ (x &&& 2147483647) % 9 = 8 := by
  have h := c_mask x 2147483647 31 (by decide) (by decide +kernel)
  have h2 := (c_irem (x &&& 2147483647) 9 9 rfl).1 (by omega)
  generalize (x &&& 2147483647) % 9 = y at h2 ⊢
  have e : ∀ k : Int32, y = k ↔ y.toInt = k.toInt := fun k => Int32.toInt_inj.symm
  simp only [e, show (0 : Int32).toInt = 0 from rfl, show (1 : Int32).toInt = 1 from rfl, show (2 : Int32).toInt = 2 from rfl, show (3 : Int32).toInt = 3 from rfl, show (4 : Int32).toInt = 4 from rfl, show (5 : Int32).toInt = 5 from rfl, show (6 : Int32).toInt = 6 from rfl, show (7 : Int32).toInt = 7 from rfl, show (8 : Int32).toInt = 8 from rfl]
  omega
theorem own_rng9 (x : Int32) : ¬ ((x &&& 2147483647) % 9 < 0) ∧ (x &&& 2147483647) % 9 < 9 := by
  rcases own_r9 x with h | h | h | h | h | h | h | h | h <;> rw [h] <;> decide
def own_look (i : Int32) : Int32 := if i = 0 ∨ i = 5 ∨ i = 6 then 1 else 0
theorem own_lat (j : Int32) (hj : j = 0 ∨ j = 1 ∨ j = 2 ∨ j = 3 ∨ j = 4 ∨ j = 5 ∨ j = 6 ∨ j = 7 ∨ j = 8) : (if j = 8 then .int (nar .boolean (0 : Int32)) else if j = 7 then .int (nar .boolean (0 : Int32)) else if j = 6 then .int (nar .boolean (1 : Int32)) else if j = 5 then .int (nar .boolean (1 : Int32)) else if j = 4 then .int (nar .boolean (0 : Int32)) else if j = 3 then .int (nar .boolean (0 : Int32)) else if j = 2 then .int (nar .boolean (0 : Int32)) else if j = 1 then .int (nar .boolean (0 : Int32)) else if j = 0 then .int (nar .boolean (1 : Int32)) else .int (0 : Int32) : Value) = .int (own_look j) := by
  rcases hj with rfl | rfl | rfl | rfl | rfl | rfl | rfl | rfl | rfl <;> rfl
theorem own_fin (i : Int32) (hi : i = 0 ∨ i = 1 ∨ i = 2 ∨ i = 3 ∨ i = 4 ∨ i = 5 ∨ i = 6 ∨ i = 7 ∨ i = 8) (h : ¬ (if i = 0 ∨ i = 5 ∨ i = 6 then (1 : Int32) else 0) = 0) : (if i = 7 ∨ i = 8 then (1 : Int32) else 0) = 0 := by
  rcases hi with rfl | rfl | rfl | rfl | rfl | rfl | rfl | rfl | rfl <;> revert h <;> decide
theorem ef_rm0 (m : MethodId) (x0 : Int32) : entryFrame m #[(.int x0)] maxLocals = mkF m 0 #[.val (.int x0), .unset, .unset, .unset, .unset, .unset] [] := by first | (simp [entryFrame, mkF, argsToLocals, Value.category, maxLocals]; done) | rfl
theorem pn_com_example_indexwarden_indexwarden_PrivilegeNarrowsPinLaw : plainName "com/example/indexwarden/indexwarden/PrivilegeNarrowsPinLaw" = true := by first | (simp [plainName, overriddenIn]; done) | decide +kernel
theorem pd___Z : parseMethodDescriptor "()Z" = some ⟨[], some .boolean⟩ := by decide +kernel
set_option maxRecDepth 65536 in
set_option maxHeartbeats 40000000 in
theorem rm0 (l : Launch) (Z : State) (a0 : Array Value) (hw : ∀ d ∈ tables_1, d.before a0 Z = true) (ws : List Jvm.Cond) (p0 : Int32) (h0 : Heap)  (w_READ : Addr) (w_WRITE : Addr) (w_CREATE_INDEX : Addr) (w_DELETE_INDEX : Addr) (w_MANAGE : Addr) (w_VIEW_INDEX_METADATA : Addr) (w_MONITOR : Addr) (w_CLUSTER_MONITOR : Addr) (w_CLUSTER_MANAGE : Addr) (S_READ : Sta Z h0 "com/example/indexwarden/indexwarden/Privilege" "READ" "Lcom/example/indexwarden/indexwarden/Privilege;" (.ref w_READ)) (S_WRITE : Sta Z h0 "com/example/indexwarden/indexwarden/Privilege" "WRITE" "Lcom/example/indexwarden/indexwarden/Privilege;" (.ref w_WRITE)) (S_CREATE_INDEX : Sta Z h0 "com/example/indexwarden/indexwarden/Privilege" "CREATE_INDEX" "Lcom/example/indexwarden/indexwarden/Privilege;" (.ref w_CREATE_INDEX)) (S_DELETE_INDEX : Sta Z h0 "com/example/indexwarden/indexwarden/Privilege" "DELETE_INDEX" "Lcom/example/indexwarden/indexwarden/Privilege;" (.ref w_DELETE_INDEX)) (S_MANAGE : Sta Z h0 "com/example/indexwarden/indexwarden/Privilege" "MANAGE" "Lcom/example/indexwarden/indexwarden/Privilege;" (.ref w_MANAGE)) (S_VIEW_INDEX_METADATA : Sta Z h0 "com/example/indexwarden/indexwarden/Privilege" "VIEW_INDEX_METADATA" "Lcom/example/indexwarden/indexwarden/Privilege;" (.ref w_VIEW_INDEX_METADATA)) (S_MONITOR : Sta Z h0 "com/example/indexwarden/indexwarden/Privilege" "MONITOR" "Lcom/example/indexwarden/indexwarden/Privilege;" (.ref w_MONITOR)) (S_CLUSTER_MONITOR : Sta Z h0 "com/example/indexwarden/indexwarden/Privilege" "CLUSTER_MONITOR" "Lcom/example/indexwarden/indexwarden/Privilege;" (.ref w_CLUSTER_MONITOR)) (S_CLUSTER_MANAGE : Sta Z h0 "com/example/indexwarden/indexwarden/Privilege" "CLUSTER_MANAGE" "Lcom/example/indexwarden/indexwarden/Privilege;" (.ref w_CLUSTER_MANAGE)) (E_READ : Exa Z h0 w_READ "com/example/indexwarden/indexwarden/Privilege") (E_WRITE : Exa Z h0 w_WRITE "com/example/indexwarden/indexwarden/Privilege") (E_CREATE_INDEX : Exa Z h0 w_CREATE_INDEX "com/example/indexwarden/indexwarden/Privilege") (E_DELETE_INDEX : Exa Z h0 w_DELETE_INDEX "com/example/indexwarden/indexwarden/Privilege") (E_MANAGE : Exa Z h0 w_MANAGE "com/example/indexwarden/indexwarden/Privilege") (E_VIEW_INDEX_METADATA : Exa Z h0 w_VIEW_INDEX_METADATA "com/example/indexwarden/indexwarden/Privilege") (E_MONITOR : Exa Z h0 w_MONITOR "com/example/indexwarden/indexwarden/Privilege") (E_CLUSTER_MONITOR : Exa Z h0 w_CLUSTER_MONITOR "com/example/indexwarden/indexwarden/Privilege") (E_CLUSTER_MANAGE : Exa Z h0 w_CLUSTER_MANAGE "com/example/indexwarden/indexwarden/Privilege") (O : Addr → Option Value) (O_READ : O w_READ = some (Value.int (0 : Int32))) (O_WRITE : O w_WRITE = some (Value.int (1 : Int32))) (O_CREATE_INDEX : O w_CREATE_INDEX = some (Value.int (2 : Int32))) (O_DELETE_INDEX : O w_DELETE_INDEX = some (Value.int (3 : Int32))) (O_MANAGE : O w_MANAGE = some (Value.int (4 : Int32))) (O_VIEW_INDEX_METADATA : O w_VIEW_INDEX_METADATA = some (Value.int (5 : Int32))) (O_MONITOR : O w_MONITOR = some (Value.int (6 : Int32))) (O_CLUSTER_MONITOR : O w_CLUSTER_MONITOR = some (Value.int (7 : Int32))) (O_CLUSTER_MANAGE : O w_CLUSTER_MANAGE = some (Value.int (8 : Int32))) :
    Pays l Z x code maxLocals ret ws room_1 #[(.int p0)] h0 (fun v h L => v = some (.int (1 : Int32)) ∧ Fr h0.size L) := by
  refine EKit.pays (plainFor_of_name pn_com_example_indexwarden_indexwarden_PrivilegeNarrowsPinLaw) (fun m => ef_rm0 m p0) ?_
  intro p e s m below meth c s₁ hx hby hml hZ hown hnm hret X0 e0 hs0
  have hexa := own_exa (Z := Z) (h0 := h0) ((p0 &&& (2147483647 : Int32)) % (9 : Int32)) w_READ w_WRITE w_CREATE_INDEX w_DELETE_INDEX w_MANAGE w_VIEW_INDEX_METADATA w_MONITOR w_CLUSTER_MONITOR w_CLUSTER_MANAGE E_READ E_WRITE E_CREATE_INDEX E_DELETE_INDEX E_MANAGE E_VIEW_INDEX_METADATA E_MONITOR E_CLUSTER_MONITOR E_CLUSTER_MANAGE
  refine EKit.bipush X0 hx (v := (9 : Int32)) rfl (hb hby at_0) (q := 2) rfl ?_
  refine EKit.newref X0 hx hZ hown e0 (hw _ (List.mem_of_getElem? (i := 0) rfl)) (hw _ (List.mem_of_getElem? (i := 1) rfl)) (by decide) (cap := 9) (by decide) (by decide) (by decide) (by decide) (hb hby at_2) (q := 5) rfl ?_
  intro T1 h1 b1 k1 X1 e1 E1 g1 O1 V1
  have V1 : Ary Z h1 b1 k1 (.object "com/example/indexwarden/indexwarden/Privilege") (9 : Int32) (fun _ => .null) := V1
  have gn_b1 : h0.size ≤ b1 := Nat.le_trans (Nat.le_refl _) (Nat.le_of_eq g1.symm)
  have sz1 : h0.size ≤ h1.size := Nat.le_trans (Nat.le_refl _) E1.1
  have EX1 := E1
  show EKit.Ends p l e room_1 s m #[(.int p0)] below meth c room_1.cells room_1.slots (fun v h L => v = some (.int (1 : Int32)) ∧ Fr h0.size L) T1 (mkF m 5 #[.val (.int p0), .unset, .unset, .unset, .unset, .unset] [(.ref b1)])
  refine EKit.dup X1 hx rfl (hb hby at_5) (q := 6) rfl ?_
  refine EKit.iconst X1 hx (v := (0 : Int32)) rfl (hb hby at_6) (q := 7) rfl ?_
  obtain ⟨T2, X2, e2, st2⟩ := getS X1 hx hZ (host := "") hown (hw _ (List.mem_of_getElem? (i := 2) rfl)) Via.refl e1 (S_READ.ext EX1) (g := (mkF m 7 #[.val (.int p0), .unset, .unset, .unset, .unset, .unset] [(.int (0 : Int32)), (.ref b1), (.ref b1)])) rfl (hb hby at_7)
  refine EKit.step st2 ?_
  show EKit.Ends p l e room_1 s m #[(.int p0)] below meth c room_1.cells room_1.slots (fun v h L => v = some (.int (1 : Int32)) ∧ Fr h0.size L) T2 (mkF m 10 #[.val (.int p0), .unset, .unset, .unset, .unset, .unset] [(.ref w_READ), (.int (0 : Int32)), (.ref b1), (.ref b1)])
  refine EKit.aastore X2 hx hZ e2 V1 O1 (Ins.self (E_READ.ext EX1)) (by decide) (by decide) (hb hby at_10) (q := 11) rfl ?_
  intro T3 h3 X3 e3 W3 V3
  have X3 := Stand.forget X3 (fun y hy => by cases List.mem_singleton.mp hy; rw [hs0]; exact gn_b1)
  have sz3 : h0.size ≤ h3.size := Nat.le_trans sz1 (Keep.of_wr W3).1
  have EX3 := EKit.Ext_wr EX1 W3 gn_b1
  refine EKit.dup X3 hx rfl (hb hby at_11) (q := 12) rfl ?_
  refine EKit.iconst X3 hx (v := (1 : Int32)) rfl (hb hby at_12) (q := 13) rfl ?_
  obtain ⟨T4, X4, e4, st4⟩ := getS X3 hx hZ (host := "") hown (hw _ (List.mem_of_getElem? (i := 6) rfl)) Via.refl e3 (S_WRITE.ext EX3) (g := (mkF m 13 #[.val (.int p0), .unset, .unset, .unset, .unset, .unset] [(.int (1 : Int32)), (.ref b1), (.ref b1)])) rfl (hb hby at_13)
  refine EKit.step st4 ?_
  show EKit.Ends p l e room_1 s m #[(.int p0)] below meth c room_1.cells room_1.slots (fun v h L => v = some (.int (1 : Int32)) ∧ Fr h0.size L) T4 (mkF m 16 #[.val (.int p0), .unset, .unset, .unset, .unset, .unset] [(.ref w_WRITE), (.int (1 : Int32)), (.ref b1), (.ref b1)])
  refine EKit.aastore X4 hx hZ e4 V3 O1 (Ins.self (E_WRITE.ext EX3)) (by decide) (by decide) (hb hby at_16) (q := 17) rfl ?_
  intro T5 h5 X5 e5 W5 V5
  have X5 := Stand.forget X5 (fun y hy => by cases List.mem_singleton.mp hy; rw [hs0]; exact gn_b1)
  have sz5 : h0.size ≤ h5.size := Nat.le_trans sz3 (Keep.of_wr W5).1
  have EX5 := EKit.Ext_wr EX3 W5 gn_b1
  refine EKit.dup X5 hx rfl (hb hby at_17) (q := 18) rfl ?_
  refine EKit.iconst X5 hx (v := (2 : Int32)) rfl (hb hby at_18) (q := 19) rfl ?_
  obtain ⟨T6, X6, e6, st6⟩ := getS X5 hx hZ (host := "") hown (hw _ (List.mem_of_getElem? (i := 8) rfl)) Via.refl e5 (S_CREATE_INDEX.ext EX5) (g := (mkF m 19 #[.val (.int p0), .unset, .unset, .unset, .unset, .unset] [(.int (2 : Int32)), (.ref b1), (.ref b1)])) rfl (hb hby at_19)
  refine EKit.step st6 ?_
  show EKit.Ends p l e room_1 s m #[(.int p0)] below meth c room_1.cells room_1.slots (fun v h L => v = some (.int (1 : Int32)) ∧ Fr h0.size L) T6 (mkF m 22 #[.val (.int p0), .unset, .unset, .unset, .unset, .unset] [(.ref w_CREATE_INDEX), (.int (2 : Int32)), (.ref b1), (.ref b1)])
  refine EKit.aastore X6 hx hZ e6 V5 O1 (Ins.self (E_CREATE_INDEX.ext EX5)) (by decide) (by decide) (hb hby at_22) (q := 23) rfl ?_
  intro T7 h7 X7 e7 W7 V7
  have X7 := Stand.forget X7 (fun y hy => by cases List.mem_singleton.mp hy; rw [hs0]; exact gn_b1)
  have sz7 : h0.size ≤ h7.size := Nat.le_trans sz5 (Keep.of_wr W7).1
  have EX7 := EKit.Ext_wr EX5 W7 gn_b1
  refine EKit.dup X7 hx rfl (hb hby at_23) (q := 24) rfl ?_
  refine EKit.iconst X7 hx (v := (3 : Int32)) rfl (hb hby at_24) (q := 25) rfl ?_
  obtain ⟨T8, X8, e8, st8⟩ := getS X7 hx hZ (host := "") hown (hw _ (List.mem_of_getElem? (i := 10) rfl)) Via.refl e7 (S_DELETE_INDEX.ext EX7) (g := (mkF m 25 #[.val (.int p0), .unset, .unset, .unset, .unset, .unset] [(.int (3 : Int32)), (.ref b1), (.ref b1)])) rfl (hb hby at_25)
  refine EKit.step st8 ?_
  show EKit.Ends p l e room_1 s m #[(.int p0)] below meth c room_1.cells room_1.slots (fun v h L => v = some (.int (1 : Int32)) ∧ Fr h0.size L) T8 (mkF m 28 #[.val (.int p0), .unset, .unset, .unset, .unset, .unset] [(.ref w_DELETE_INDEX), (.int (3 : Int32)), (.ref b1), (.ref b1)])
  refine EKit.aastore X8 hx hZ e8 V7 O1 (Ins.self (E_DELETE_INDEX.ext EX7)) (by decide) (by decide) (hb hby at_28) (q := 29) rfl ?_
  intro T9 h9 X9 e9 W9 V9
  have X9 := Stand.forget X9 (fun y hy => by cases List.mem_singleton.mp hy; rw [hs0]; exact gn_b1)
  have sz9 : h0.size ≤ h9.size := Nat.le_trans sz7 (Keep.of_wr W9).1
  have EX9 := EKit.Ext_wr EX7 W9 gn_b1
  refine EKit.dup X9 hx rfl (hb hby at_29) (q := 30) rfl ?_
  refine EKit.iconst X9 hx (v := (4 : Int32)) rfl (hb hby at_30) (q := 31) rfl ?_
  obtain ⟨T10, X10, e10, st10⟩ := getS X9 hx hZ (host := "") hown (hw _ (List.mem_of_getElem? (i := 12) rfl)) Via.refl e9 (S_MANAGE.ext EX9) (g := (mkF m 31 #[.val (.int p0), .unset, .unset, .unset, .unset, .unset] [(.int (4 : Int32)), (.ref b1), (.ref b1)])) rfl (hb hby at_31)
  refine EKit.step st10 ?_
  show EKit.Ends p l e room_1 s m #[(.int p0)] below meth c room_1.cells room_1.slots (fun v h L => v = some (.int (1 : Int32)) ∧ Fr h0.size L) T10 (mkF m 34 #[.val (.int p0), .unset, .unset, .unset, .unset, .unset] [(.ref w_MANAGE), (.int (4 : Int32)), (.ref b1), (.ref b1)])
  refine EKit.aastore X10 hx hZ e10 V9 O1 (Ins.self (E_MANAGE.ext EX9)) (by decide) (by decide) (hb hby at_34) (q := 35) rfl ?_
  intro T11 h11 X11 e11 W11 V11
  have X11 := Stand.forget X11 (fun y hy => by cases List.mem_singleton.mp hy; rw [hs0]; exact gn_b1)
  have sz11 : h0.size ≤ h11.size := Nat.le_trans sz9 (Keep.of_wr W11).1
  have EX11 := EKit.Ext_wr EX9 W11 gn_b1
  refine EKit.dup X11 hx rfl (hb hby at_35) (q := 36) rfl ?_
  refine EKit.iconst X11 hx (v := (5 : Int32)) rfl (hb hby at_36) (q := 37) rfl ?_
  obtain ⟨T12, X12, e12, st12⟩ := getS X11 hx hZ (host := "") hown (hw _ (List.mem_of_getElem? (i := 14) rfl)) Via.refl e11 (S_VIEW_INDEX_METADATA.ext EX11) (g := (mkF m 37 #[.val (.int p0), .unset, .unset, .unset, .unset, .unset] [(.int (5 : Int32)), (.ref b1), (.ref b1)])) rfl (hb hby at_37)
  refine EKit.step st12 ?_
  show EKit.Ends p l e room_1 s m #[(.int p0)] below meth c room_1.cells room_1.slots (fun v h L => v = some (.int (1 : Int32)) ∧ Fr h0.size L) T12 (mkF m 40 #[.val (.int p0), .unset, .unset, .unset, .unset, .unset] [(.ref w_VIEW_INDEX_METADATA), (.int (5 : Int32)), (.ref b1), (.ref b1)])
  refine EKit.aastore X12 hx hZ e12 V11 O1 (Ins.self (E_VIEW_INDEX_METADATA.ext EX11)) (by decide) (by decide) (hb hby at_40) (q := 41) rfl ?_
  intro T13 h13 X13 e13 W13 V13
  have X13 := Stand.forget X13 (fun y hy => by cases List.mem_singleton.mp hy; rw [hs0]; exact gn_b1)
  have sz13 : h0.size ≤ h13.size := Nat.le_trans sz11 (Keep.of_wr W13).1
  have EX13 := EKit.Ext_wr EX11 W13 gn_b1
  refine EKit.dup X13 hx rfl (hb hby at_41) (q := 42) rfl ?_
  refine EKit.bipush X13 hx (v := (6 : Int32)) rfl (hb hby at_42) (q := 44) rfl ?_
  obtain ⟨T14, X14, e14, st14⟩ := getS X13 hx hZ (host := "") hown (hw _ (List.mem_of_getElem? (i := 16) rfl)) Via.refl e13 (S_MONITOR.ext EX13) (g := (mkF m 44 #[.val (.int p0), .unset, .unset, .unset, .unset, .unset] [(.int (6 : Int32)), (.ref b1), (.ref b1)])) rfl (hb hby at_44)
  refine EKit.step st14 ?_
  show EKit.Ends p l e room_1 s m #[(.int p0)] below meth c room_1.cells room_1.slots (fun v h L => v = some (.int (1 : Int32)) ∧ Fr h0.size L) T14 (mkF m 47 #[.val (.int p0), .unset, .unset, .unset, .unset, .unset] [(.ref w_MONITOR), (.int (6 : Int32)), (.ref b1), (.ref b1)])
  refine EKit.aastore X14 hx hZ e14 V13 O1 (Ins.self (E_MONITOR.ext EX13)) (by decide) (by decide) (hb hby at_47) (q := 48) rfl ?_
  intro T15 h15 X15 e15 W15 V15
  have X15 := Stand.forget X15 (fun y hy => by cases List.mem_singleton.mp hy; rw [hs0]; exact gn_b1)
  have sz15 : h0.size ≤ h15.size := Nat.le_trans sz13 (Keep.of_wr W15).1
  have EX15 := EKit.Ext_wr EX13 W15 gn_b1
  refine EKit.dup X15 hx rfl (hb hby at_48) (q := 49) rfl ?_
  refine EKit.bipush X15 hx (v := (7 : Int32)) rfl (hb hby at_49) (q := 51) rfl ?_
  obtain ⟨T16, X16, e16, st16⟩ := getS X15 hx hZ (host := "") hown (hw _ (List.mem_of_getElem? (i := 18) rfl)) Via.refl e15 (S_CLUSTER_MONITOR.ext EX15) (g := (mkF m 51 #[.val (.int p0), .unset, .unset, .unset, .unset, .unset] [(.int (7 : Int32)), (.ref b1), (.ref b1)])) rfl (hb hby at_51)
  refine EKit.step st16 ?_
  show EKit.Ends p l e room_1 s m #[(.int p0)] below meth c room_1.cells room_1.slots (fun v h L => v = some (.int (1 : Int32)) ∧ Fr h0.size L) T16 (mkF m 54 #[.val (.int p0), .unset, .unset, .unset, .unset, .unset] [(.ref w_CLUSTER_MONITOR), (.int (7 : Int32)), (.ref b1), (.ref b1)])
  refine EKit.aastore X16 hx hZ e16 V15 O1 (Ins.self (E_CLUSTER_MONITOR.ext EX15)) (by decide) (by decide) (hb hby at_54) (q := 55) rfl ?_
  intro T17 h17 X17 e17 W17 V17
  have X17 := Stand.forget X17 (fun y hy => by cases List.mem_singleton.mp hy; rw [hs0]; exact gn_b1)
  have sz17 : h0.size ≤ h17.size := Nat.le_trans sz15 (Keep.of_wr W17).1
  have EX17 := EKit.Ext_wr EX15 W17 gn_b1
  refine EKit.dup X17 hx rfl (hb hby at_55) (q := 56) rfl ?_
  refine EKit.bipush X17 hx (v := (8 : Int32)) rfl (hb hby at_56) (q := 58) rfl ?_
  obtain ⟨T18, X18, e18, st18⟩ := getS X17 hx hZ (host := "") hown (hw _ (List.mem_of_getElem? (i := 20) rfl)) Via.refl e17 (S_CLUSTER_MANAGE.ext EX17) (g := (mkF m 58 #[.val (.int p0), .unset, .unset, .unset, .unset, .unset] [(.int (8 : Int32)), (.ref b1), (.ref b1)])) rfl (hb hby at_58)
  refine EKit.step st18 ?_
  show EKit.Ends p l e room_1 s m #[(.int p0)] below meth c room_1.cells room_1.slots (fun v h L => v = some (.int (1 : Int32)) ∧ Fr h0.size L) T18 (mkF m 61 #[.val (.int p0), .unset, .unset, .unset, .unset, .unset] [(.ref w_CLUSTER_MANAGE), (.int (8 : Int32)), (.ref b1), (.ref b1)])
  refine EKit.aastore X18 hx hZ e18 V17 O1 (Ins.self (E_CLUSTER_MANAGE.ext EX17)) (by decide) (by decide) (hb hby at_61) (q := 62) rfl ?_
  intro T19 h19 X19 e19 W19 V19
  have X19 := Stand.forget X19 (fun y hy => by cases List.mem_singleton.mp hy; rw [hs0]; exact gn_b1)
  have sz19 : h0.size ≤ h19.size := Nat.le_trans sz17 (Keep.of_wr W19).1
  have EX19 := EKit.Ext_wr EX17 W19 gn_b1
  refine EKit.astoreN X19 hx rfl (l' := #[.val (.int p0), .val (.ref b1), .unset, .unset, .unset, .unset]) rfl (hb hby at_62) (q := 63) rfl ?_
  refine EKit.bipush X19 hx (v := (9 : Int32)) rfl (hb hby at_63) (q := 65) rfl ?_
  refine EKit.newarr X19 hx hZ e19 (hw _ (List.mem_of_getElem? (i := 22) rfl)) (by decide) (cap := 9) (by decide) (by decide) (by decide) (by decide) (hb hby at_65) (q := 67) rfl ?_
  intro T20 h20 b20 k20 X20 e20 E20 g20 V20
  have V20 : Ary Z h20 b20 k20 .boolean (9 : Int32) (fun _ => (.int (0 : Int32))) := V20
  have gn_b20 : h0.size ≤ b20 := Nat.le_trans sz19 (Nat.le_of_eq g20.symm)
  have sz20 : h0.size ≤ h20.size := Nat.le_trans sz19 E20.1
  have ne_b1_b20 : b1 ≠ b20 := Nat.ne_of_lt (Nat.lt_of_lt_of_le (V19).lt (Nat.le_of_eq g20.symm))
  have ne_b20_b1 : b20 ≠ b1 := Ne.symm ne_b1_b20
  have fV_b1_20 := V19.ext E20
  have EX20 := EKit.Ext_trans EX19 E20
  show EKit.Ends p l e room_1 s m #[(.int p0)] below meth c room_1.cells room_1.slots (fun v h L => v = some (.int (1 : Int32)) ∧ Fr h0.size L) T20 (mkF m 67 #[.val (.int p0), .val (.ref b1), .unset, .unset, .unset, .unset] [(.ref b20)])
  refine EKit.dup X20 hx rfl (hb hby at_67) (q := 68) rfl ?_
  refine EKit.iconst X20 hx (v := (0 : Int32)) rfl (hb hby at_68) (q := 69) rfl ?_
  refine EKit.iconst X20 hx (v := (1 : Int32)) rfl (hb hby at_69) (q := 70) rfl ?_
  refine EKit.bastoreZ X20 hx hZ e20 V20 (by decide) (by decide) (hb hby at_70) (q := 71) rfl ?_
  intro T21 h21 X21 e21 W21 V21
  have X21 := Stand.forget X21 (fun y hy => by cases List.mem_singleton.mp hy; rw [hs0]; exact gn_b20)
  have sz21 : h0.size ≤ h21.size := Nat.le_trans sz20 (Keep.of_wr W21).1
  have fV_b1_21 := fV_b1_20.other W21 (ne_b1_b20)
  have EX21 := EKit.Ext_wr EX20 W21 gn_b20
  refine EKit.dup X21 hx rfl (hb hby at_71) (q := 72) rfl ?_
  refine EKit.iconst X21 hx (v := (1 : Int32)) rfl (hb hby at_72) (q := 73) rfl ?_
  refine EKit.iconst X21 hx (v := (0 : Int32)) rfl (hb hby at_73) (q := 74) rfl ?_
  refine EKit.bastoreZ X21 hx hZ e21 V21 (by decide) (by decide) (hb hby at_74) (q := 75) rfl ?_
  intro T22 h22 X22 e22 W22 V22
  have X22 := Stand.forget X22 (fun y hy => by cases List.mem_singleton.mp hy; rw [hs0]; exact gn_b20)
  have sz22 : h0.size ≤ h22.size := Nat.le_trans sz21 (Keep.of_wr W22).1
  have fV_b1_22 := fV_b1_21.other W22 (ne_b1_b20)
  have EX22 := EKit.Ext_wr EX21 W22 gn_b20
  refine EKit.dup X22 hx rfl (hb hby at_75) (q := 76) rfl ?_
  refine EKit.iconst X22 hx (v := (2 : Int32)) rfl (hb hby at_76) (q := 77) rfl ?_
  refine EKit.iconst X22 hx (v := (0 : Int32)) rfl (hb hby at_77) (q := 78) rfl ?_
  refine EKit.bastoreZ X22 hx hZ e22 V22 (by decide) (by decide) (hb hby at_78) (q := 79) rfl ?_
  intro T23 h23 X23 e23 W23 V23
  have X23 := Stand.forget X23 (fun y hy => by cases List.mem_singleton.mp hy; rw [hs0]; exact gn_b20)
  have sz23 : h0.size ≤ h23.size := Nat.le_trans sz22 (Keep.of_wr W23).1
  have fV_b1_23 := fV_b1_22.other W23 (ne_b1_b20)
  have EX23 := EKit.Ext_wr EX22 W23 gn_b20
  refine EKit.dup X23 hx rfl (hb hby at_79) (q := 80) rfl ?_
  refine EKit.iconst X23 hx (v := (3 : Int32)) rfl (hb hby at_80) (q := 81) rfl ?_
  refine EKit.iconst X23 hx (v := (0 : Int32)) rfl (hb hby at_81) (q := 82) rfl ?_
  refine EKit.bastoreZ X23 hx hZ e23 V23 (by decide) (by decide) (hb hby at_82) (q := 83) rfl ?_
  intro T24 h24 X24 e24 W24 V24
  have X24 := Stand.forget X24 (fun y hy => by cases List.mem_singleton.mp hy; rw [hs0]; exact gn_b20)
  have sz24 : h0.size ≤ h24.size := Nat.le_trans sz23 (Keep.of_wr W24).1
  have fV_b1_24 := fV_b1_23.other W24 (ne_b1_b20)
  have EX24 := EKit.Ext_wr EX23 W24 gn_b20
  refine EKit.dup X24 hx rfl (hb hby at_83) (q := 84) rfl ?_
  refine EKit.iconst X24 hx (v := (4 : Int32)) rfl (hb hby at_84) (q := 85) rfl ?_
  refine EKit.iconst X24 hx (v := (0 : Int32)) rfl (hb hby at_85) (q := 86) rfl ?_
  refine EKit.bastoreZ X24 hx hZ e24 V24 (by decide) (by decide) (hb hby at_86) (q := 87) rfl ?_
  intro T25 h25 X25 e25 W25 V25
  have X25 := Stand.forget X25 (fun y hy => by cases List.mem_singleton.mp hy; rw [hs0]; exact gn_b20)
  have sz25 : h0.size ≤ h25.size := Nat.le_trans sz24 (Keep.of_wr W25).1
  have fV_b1_25 := fV_b1_24.other W25 (ne_b1_b20)
  have EX25 := EKit.Ext_wr EX24 W25 gn_b20
  refine EKit.dup X25 hx rfl (hb hby at_87) (q := 88) rfl ?_
  refine EKit.iconst X25 hx (v := (5 : Int32)) rfl (hb hby at_88) (q := 89) rfl ?_
  refine EKit.iconst X25 hx (v := (1 : Int32)) rfl (hb hby at_89) (q := 90) rfl ?_
  refine EKit.bastoreZ X25 hx hZ e25 V25 (by decide) (by decide) (hb hby at_90) (q := 91) rfl ?_
  intro T26 h26 X26 e26 W26 V26
  have X26 := Stand.forget X26 (fun y hy => by cases List.mem_singleton.mp hy; rw [hs0]; exact gn_b20)
  have sz26 : h0.size ≤ h26.size := Nat.le_trans sz25 (Keep.of_wr W26).1
  have fV_b1_26 := fV_b1_25.other W26 (ne_b1_b20)
  have EX26 := EKit.Ext_wr EX25 W26 gn_b20
  refine EKit.dup X26 hx rfl (hb hby at_91) (q := 92) rfl ?_
  refine EKit.bipush X26 hx (v := (6 : Int32)) rfl (hb hby at_92) (q := 94) rfl ?_
  refine EKit.iconst X26 hx (v := (1 : Int32)) rfl (hb hby at_94) (q := 95) rfl ?_
  refine EKit.bastoreZ X26 hx hZ e26 V26 (by decide) (by decide) (hb hby at_95) (q := 96) rfl ?_
  intro T27 h27 X27 e27 W27 V27
  have X27 := Stand.forget X27 (fun y hy => by cases List.mem_singleton.mp hy; rw [hs0]; exact gn_b20)
  have sz27 : h0.size ≤ h27.size := Nat.le_trans sz26 (Keep.of_wr W27).1
  have fV_b1_27 := fV_b1_26.other W27 (ne_b1_b20)
  have EX27 := EKit.Ext_wr EX26 W27 gn_b20
  refine EKit.dup X27 hx rfl (hb hby at_96) (q := 97) rfl ?_
  refine EKit.bipush X27 hx (v := (7 : Int32)) rfl (hb hby at_97) (q := 99) rfl ?_
  refine EKit.iconst X27 hx (v := (0 : Int32)) rfl (hb hby at_99) (q := 100) rfl ?_
  refine EKit.bastoreZ X27 hx hZ e27 V27 (by decide) (by decide) (hb hby at_100) (q := 101) rfl ?_
  intro T28 h28 X28 e28 W28 V28
  have X28 := Stand.forget X28 (fun y hy => by cases List.mem_singleton.mp hy; rw [hs0]; exact gn_b20)
  have sz28 : h0.size ≤ h28.size := Nat.le_trans sz27 (Keep.of_wr W28).1
  have fV_b1_28 := fV_b1_27.other W28 (ne_b1_b20)
  have EX28 := EKit.Ext_wr EX27 W28 gn_b20
  refine EKit.dup X28 hx rfl (hb hby at_101) (q := 102) rfl ?_
  refine EKit.bipush X28 hx (v := (8 : Int32)) rfl (hb hby at_102) (q := 104) rfl ?_
  refine EKit.iconst X28 hx (v := (0 : Int32)) rfl (hb hby at_104) (q := 105) rfl ?_
  refine EKit.bastoreZ X28 hx hZ e28 V28 (by decide) (by decide) (hb hby at_105) (q := 106) rfl ?_
  intro T29 h29 X29 e29 W29 V29
  have X29 := Stand.forget X29 (fun y hy => by cases List.mem_singleton.mp hy; rw [hs0]; exact gn_b20)
  have sz29 : h0.size ≤ h29.size := Nat.le_trans sz28 (Keep.of_wr W29).1
  have fV_b1_29 := fV_b1_28.other W29 (ne_b1_b20)
  have EX29 := EKit.Ext_wr EX28 W29 gn_b20
  refine EKit.astoreN X29 hx rfl (l' := #[.val (.int p0), .val (.ref b1), .val (.ref b20), .unset, .unset, .unset]) rfl (hb hby at_106) (q := 107) rfl ?_
  refine EKit.iloadN X29 hx rfl (hb hby at_107) (q := 108) rfl ?_
  refine EKit.ldcInt X29 hx hZ hown (hw _ (List.mem_of_getElem? (i := 23) rfl)) (hb hby at_108) (q := 110) rfl ?_
  refine EKit.iand X29 hx  (hb hby at_110) (q := 111) rfl ?_
  refine EKit.bipush X29 hx (v := (9 : Int32)) rfl (hb hby at_111) (q := 113) rfl ?_
  refine EKit.irem X29 hx (by decide) (hb hby at_113) (q := 114) rfl ?_
  refine EKit.istoreN X29 hx (l' := #[.val (.int p0), .val (.ref b1), .val (.ref b20), .val (.int ((p0 &&& (2147483647 : Int32)) % (9 : Int32))), .unset, .unset]) rfl (hb hby at_114) (q := 115) rfl ?_
  refine EKit.aloadN X29 hx rfl rfl (hb hby at_115) (q := 116) rfl ?_
  refine EKit.iloadN X29 hx rfl (hb hby at_116) (q := 117) rfl ?_
  refine EKit.aaload X29 hx hZ e29 rfl fV_b1_29 (own_rng9 p0).1 (own_rng9 p0).2 (v := (.ref (own_pick ((p0 &&& (2147483647 : Int32)) % (9 : Int32)) w_READ w_WRITE w_CREATE_INDEX w_DELETE_INDEX w_MANAGE w_VIEW_INDEX_METADATA w_MONITOR w_CLUSTER_MONITOR w_CLUSTER_MANAGE))) (own_at ((p0 &&& (2147483647 : Int32)) % (9 : Int32)) w_READ w_WRITE w_CREATE_INDEX w_DELETE_INDEX w_MANAGE w_VIEW_INDEX_METADATA w_MONITOR w_CLUSTER_MONITOR w_CLUSTER_MANAGE (own_r9 p0)) (hb hby at_117) (q := 118) rfl ?_
  refine EKit.astore X29 hx rfl (l' := #[.val (.int p0), .val (.ref b1), .val (.ref b20), .val (.int ((p0 &&& (2147483647 : Int32)) % (9 : Int32))), .val (.ref (own_pick ((p0 &&& (2147483647 : Int32)) % (9 : Int32)) w_READ w_WRITE w_CREATE_INDEX w_DELETE_INDEX w_MANAGE w_VIEW_INDEX_METADATA w_MONITOR w_CLUSTER_MONITOR w_CLUSTER_MANAGE)), .unset]) rfl (hb hby at_118) (q := 120) rfl ?_
  refine EKit.aload X29 hx rfl rfl (hb hby at_120) (q := 122) rfl ?_
  refine EKit.callV X29 hx hZ hown e29 (y := (⟨"com/example/indexwarden/indexwarden/Privilege", "narrows", "()Z"⟩ : MethodName)) (z := (⟨"com/example/indexwarden/indexwarden/Privilege", "narrows", "()Z"⟩ : MethodName)) (K := "com/example/indexwarden/indexwarden/Privilege") (hw _ (List.mem_of_getElem? (i := 24) rfl)) (hw _ (List.mem_of_getElem? (i := 25) rfl)) (notFace_of_selects (args := #[]) (mvT hZ (hw _ (List.mem_of_getElem? (i := 27) rfl)))) (hw _ (List.mem_of_getElem? (i := 27) rfl)) (hw _ (List.mem_of_getElem? (i := 26) rfl)) (hw _ (List.mem_of_getElem? (i := 3) rfl)) (hw _ (List.mem_of_getElem? (i := 28) rfl)) (by decide) (a := (own_pick ((p0 &&& (2147483647 : Int32)) % (9 : Int32)) w_READ w_WRITE w_CREATE_INDEX w_DELETE_INDEX w_MANAGE w_VIEW_INDEX_METADATA w_MONITOR w_CLUSTER_MONITOR w_CLUSTER_MANAGE)) ((hexa.ext EX29)) (argsL := []) (rm1 l Z a0 hw [] (own_pick ((p0 &&& (2147483647 : Int32)) % (9 : Int32)) w_READ w_WRITE w_CREATE_INDEX w_DELETE_INDEX w_MANAGE w_VIEW_INDEX_METADATA w_MONITOR w_CLUSTER_MONITOR w_CLUSTER_MANAGE) h29 w_READ w_VIEW_INDEX_METADATA w_MONITOR (S_READ.ext EX29) (S_VIEW_INDEX_METADATA.ext EX29) (S_MONITOR.ext EX29)) (rest := []) (by rw [hml]; rfl) pd___Z rfl (W := 0) (Nat.le_of_eq rfl) (by decide) (by decide) (by decide) (by decide) rfl (hb hby at_122) (q := 125) rfl ?_
  intro T30 v30 L30 X30 hQ30
  obtain ⟨X30, e30, ev30⟩ := EKit.pureK X30 hQ30
  subst ev30
  show EKit.Ends p l e room_1 s m #[(.int p0)] below meth c room_1.cells room_1.slots (fun v h L => v = some (.int (1 : Int32)) ∧ Fr h0.size L) T30 (mkF m 125 #[.val (.int p0), .val (.ref b1), .val (.ref b20), .val (.int ((p0 &&& (2147483647 : Int32)) % (9 : Int32))), .val (.ref (own_pick ((p0 &&& (2147483647 : Int32)) % (9 : Int32)) w_READ w_WRITE w_CREATE_INDEX w_DELETE_INDEX w_MANAGE w_VIEW_INDEX_METADATA w_MONITOR w_CLUSTER_MONITOR w_CLUSTER_MANAGE)), .unset] [(.int (own_nar (own_pick ((p0 &&& (2147483647 : Int32)) % (9 : Int32)) w_READ w_WRITE w_CREATE_INDEX w_DELETE_INDEX w_MANAGE w_VIEW_INDEX_METADATA w_MONITOR w_CLUSTER_MONITOR w_CLUSTER_MANAGE) w_READ w_VIEW_INDEX_METADATA w_MONITOR))])
  refine EKit.istore X30 hx (l' := #[.val (.int p0), .val (.ref b1), .val (.ref b20), .val (.int ((p0 &&& (2147483647 : Int32)) % (9 : Int32))), .val (.ref (own_pick ((p0 &&& (2147483647 : Int32)) % (9 : Int32)) w_READ w_WRITE w_CREATE_INDEX w_DELETE_INDEX w_MANAGE w_VIEW_INDEX_METADATA w_MONITOR w_CLUSTER_MONITOR w_CLUSTER_MANAGE)), .val (.int (own_nar (own_pick ((p0 &&& (2147483647 : Int32)) % (9 : Int32)) w_READ w_WRITE w_CREATE_INDEX w_DELETE_INDEX w_MANAGE w_VIEW_INDEX_METADATA w_MONITOR w_CLUSTER_MONITOR w_CLUSTER_MANAGE) w_READ w_VIEW_INDEX_METADATA w_MONITOR))]) rfl (hb hby at_125) (q := 127) rfl ?_
  refine EKit.iload X30 hx rfl (hb hby at_127) (q := 129) rfl ?_
  refine EKit.aloadN X30 hx rfl rfl (hb hby at_129) (q := 130) rfl ?_
  refine EKit.iloadN X30 hx rfl (hb hby at_130) (q := 131) rfl ?_
  refine EKit.baloadZ X30 hx hZ e30 V29 (own_rng9 p0).1 (own_rng9 p0).2 (v := (.int (own_look ((p0 &&& (2147483647 : Int32)) % (9 : Int32))))) (own_lat ((p0 &&& (2147483647 : Int32)) % (9 : Int32)) (own_r9 p0)) (hb hby at_131) (q := 132) rfl ?_
  have h132 : (own_nar (own_pick ((p0 &&& (2147483647 : Int32)) % (9 : Int32)) w_READ w_WRITE w_CREATE_INDEX w_DELETE_INDEX w_MANAGE w_VIEW_INDEX_METADATA w_MONITOR w_CLUSTER_MONITOR w_CLUSTER_MANAGE) w_READ w_VIEW_INDEX_METADATA w_MONITOR) = (own_look ((p0 &&& (2147483647 : Int32)) % (9 : Int32))) := (own_ans1 O _ w_READ w_WRITE w_CREATE_INDEX w_DELETE_INDEX w_MANAGE w_VIEW_INDEX_METADATA w_MONITOR w_CLUSTER_MONITOR w_CLUSTER_MANAGE O_READ O_WRITE O_CREATE_INDEX O_DELETE_INDEX O_MANAGE O_VIEW_INDEX_METADATA O_MONITOR O_CLUSTER_MONITOR O_CLUSTER_MANAGE (own_r9 p0))
  refine EKit.icmpYes X30 hx ((teq h132).1) (hb hby at_132) (by decide) (q := 137) (by decide) ?_
  refine EKit.iload X30 hx rfl (hb hby at_137) (q := 139) rfl ?_
  by_cases h139 : (own_nar (own_pick ((p0 &&& (2147483647 : Int32)) % (9 : Int32)) w_READ w_WRITE w_CREATE_INDEX w_DELETE_INDEX w_MANAGE w_VIEW_INDEX_METADATA w_MONITOR w_CLUSTER_MONITOR w_CLUSTER_MANAGE) w_READ w_VIEW_INDEX_METADATA w_MONITOR) = (0 : Int32)
  · skip
    refine EKit.ifYes X30 hx (EKit.c_t (teq h139).1) (hb hby at_139) (by decide) (q := 152) (by decide) ?_
    refine EKit.iconst X30 hx (v := (1 : Int32)) rfl (hb hby at_152) (q := 153) rfl ?_
    exact EKit.retZ X30 hx hret (by simp) (hb hby at_153) (⟨rfl, Fr.nil _⟩) (by decide) (by decide)
  · skip
    refine EKit.ifNo X30 hx (EKit.c_t (feq h139).1) (hb hby at_139) (q := 142) rfl ?_
    refine EKit.aload X30 hx rfl rfl (hb hby at_142) (q := 144) rfl ?_
    refine EKit.callV X30 hx hZ hown e30 (y := (⟨"com/example/indexwarden/indexwarden/Privilege", "isClusterLevel", "()Z"⟩ : MethodName)) (z := (⟨"com/example/indexwarden/indexwarden/Privilege", "isClusterLevel", "()Z"⟩ : MethodName)) (K := "com/example/indexwarden/indexwarden/Privilege") (hw _ (List.mem_of_getElem? (i := 30) rfl)) (hw _ (List.mem_of_getElem? (i := 31) rfl)) (notFace_of_selects (args := #[]) (mvT hZ (hw _ (List.mem_of_getElem? (i := 33) rfl)))) (hw _ (List.mem_of_getElem? (i := 33) rfl)) (hw _ (List.mem_of_getElem? (i := 32) rfl)) (hw _ (List.mem_of_getElem? (i := 3) rfl)) (hw _ (List.mem_of_getElem? (i := 34) rfl)) (by decide) (a := (own_pick ((p0 &&& (2147483647 : Int32)) % (9 : Int32)) w_READ w_WRITE w_CREATE_INDEX w_DELETE_INDEX w_MANAGE w_VIEW_INDEX_METADATA w_MONITOR w_CLUSTER_MONITOR w_CLUSTER_MANAGE)) ((hexa.ext EX29)) (argsL := []) (rm2 l Z a0 hw [] (own_pick ((p0 &&& (2147483647 : Int32)) % (9 : Int32)) w_READ w_WRITE w_CREATE_INDEX w_DELETE_INDEX w_MANAGE w_VIEW_INDEX_METADATA w_MONITOR w_CLUSTER_MONITOR w_CLUSTER_MANAGE) h29 w_CLUSTER_MONITOR w_CLUSTER_MANAGE (S_CLUSTER_MONITOR.ext EX29) (S_CLUSTER_MANAGE.ext EX29)) (rest := []) (by rw [hml]; rfl) pd___Z rfl (W := 0) (Nat.le_of_eq rfl) (by decide) (by decide) (by decide) (by decide) rfl (hb hby at_144) (q := 147) rfl ?_
    intro T31 v31 L31 X31 hQ31
    obtain ⟨X31, e31, ev31⟩ := EKit.pureK X31 hQ31
    subst ev31
    show EKit.Ends p l e room_1 s m #[(.int p0)] below meth c room_1.cells room_1.slots (fun v h L => v = some (.int (1 : Int32)) ∧ Fr h0.size L) T31 (mkF m 147 #[.val (.int p0), .val (.ref b1), .val (.ref b20), .val (.int ((p0 &&& (2147483647 : Int32)) % (9 : Int32))), .val (.ref (own_pick ((p0 &&& (2147483647 : Int32)) % (9 : Int32)) w_READ w_WRITE w_CREATE_INDEX w_DELETE_INDEX w_MANAGE w_VIEW_INDEX_METADATA w_MONITOR w_CLUSTER_MONITOR w_CLUSTER_MANAGE)), .val (.int (own_nar (own_pick ((p0 &&& (2147483647 : Int32)) % (9 : Int32)) w_READ w_WRITE w_CREATE_INDEX w_DELETE_INDEX w_MANAGE w_VIEW_INDEX_METADATA w_MONITOR w_CLUSTER_MONITOR w_CLUSTER_MANAGE) w_READ w_VIEW_INDEX_METADATA w_MONITOR))] [(.int (own_clu (own_pick ((p0 &&& (2147483647 : Int32)) % (9 : Int32)) w_READ w_WRITE w_CREATE_INDEX w_DELETE_INDEX w_MANAGE w_VIEW_INDEX_METADATA w_MONITOR w_CLUSTER_MONITOR w_CLUSTER_MANAGE) w_CLUSTER_MONITOR w_CLUSTER_MANAGE))])
    have h147 : (own_clu (own_pick ((p0 &&& (2147483647 : Int32)) % (9 : Int32)) w_READ w_WRITE w_CREATE_INDEX w_DELETE_INDEX w_MANAGE w_VIEW_INDEX_METADATA w_MONITOR w_CLUSTER_MONITOR w_CLUSTER_MANAGE) w_CLUSTER_MONITOR w_CLUSTER_MANAGE) = (0 : Int32) := (own_ans2 O _ w_READ w_WRITE w_CREATE_INDEX w_DELETE_INDEX w_MANAGE w_VIEW_INDEX_METADATA w_MONITOR w_CLUSTER_MONITOR w_CLUSTER_MANAGE O_READ O_WRITE O_CREATE_INDEX O_DELETE_INDEX O_MANAGE O_VIEW_INDEX_METADATA O_MONITOR O_CLUSTER_MONITOR O_CLUSTER_MANAGE (own_r9 p0)).trans (own_fin _ (own_r9 p0) (fun z => h139 ((own_ans1 O _ w_READ w_WRITE w_CREATE_INDEX w_DELETE_INDEX w_MANAGE w_VIEW_INDEX_METADATA w_MONITOR w_CLUSTER_MONITOR w_CLUSTER_MANAGE O_READ O_WRITE O_CREATE_INDEX O_DELETE_INDEX O_MANAGE O_VIEW_INDEX_METADATA O_MONITOR O_CLUSTER_MONITOR O_CLUSTER_MANAGE (own_r9 p0)).trans z)))
    refine EKit.ifYes X31 hx (EKit.c_t (teq h147).1) (hb hby at_147) (by decide) (q := 152) (by decide) ?_
    refine EKit.iconst X31 hx (v := (1 : Int32)) rfl (hb hby at_152) (q := 153) rfl ?_
    exact EKit.retZ X31 hx hret (by simp) (hb hby at_153) (⟨rfl, Fr.nil _⟩) (by decide) (by decide)
set_option maxRecDepth 65536 in
set_option maxHeartbeats 40000000 in
theorem comes_1 {Post : Tables → Env → Array Value → State → Outcome → State → Prop} (hpost : ∀ tb e args s v u, (limb_1_1.after args s (.returned v) u = true ∧ limb_1_2.after args s (.returned v) u = true ∧ True) → FrameEnd s (.returned v) u (Jvm.fieldLocs frame_1_writes args s ++ Jvm.arrayLocs frame_1_arrays args s ++ Jvm.staticLocs frame_1_statics s) 16 128 → Post tb e args s (.returned v) u) :
    ArmFor flags0 classFile x code maxLocals ret World_1 tables_1 room_1 Calls_1 rest_1 Pre_1 Post := by
  intro l hfl _ _ p e ha hc hk s m args below hf hA hF happ hP
  obtain ⟨hcalls, hrest, hpre⟩ := hP
  obtain ⟨-, -, -, hnamed, -, -, -, hat⟩ := (Spec.applies_iff hf).mp happ
  obtain ⟨hg, hn⟩ := and_e (Cond.before_iff.mp (show (Jvm.Cond.and given_1 narrow_1).before args s = true from hpre))
  obtain ⟨g4, g5⟩ := and_e hg
  obtain ⟨w0, rfl⟩ : ∃ w0 : Value, args = #[w0] := by
    have hs : args.size = 1 := by simpa [Cond.value, given_1] using g4
    obtain ⟨L⟩ := args
    match L, hs with
    | [w0], _ => exact ⟨w0, rfl⟩
  have hw := fun d (hd : d ∈ tables_1) => atoms_spec (ws := Jvm.Cond.code x code maxLocals ret :: tables_1) hat d (List.mem_cons_of_mem _ hd)
  obtain ⟨i0, ei0⟩ := is_v g5
  obtain rfl : w0 = (.int i0) := Option.some.inj ei0
  obtain ⟨n1, n2⟩ := and_e hn
  obtain ⟨n3, n4⟩ := and_e n2
  obtain ⟨n5, n6⟩ := and_e n4
  obtain ⟨n7, n8⟩ := and_e n6
  obtain ⟨n9, n10⟩ := and_e n8
  obtain ⟨n11, n12⟩ := and_e n10
  obtain ⟨n13, n14⟩ := and_e n12
  obtain ⟨n15, n16⟩ := and_e n14
  obtain ⟨n17, n18⟩ := and_e n16
  obtain ⟨n19, n20⟩ := and_e n18
  obtain ⟨n21, n22⟩ := and_e n20
  obtain ⟨n23, n24⟩ := and_e n22
  obtain ⟨n25, n26⟩ := and_e n24
  obtain ⟨n27, n28⟩ := and_e n26
  obtain ⟨n29, n30⟩ := and_e n28
  obtain ⟨n31, n32⟩ := and_e n30
  obtain ⟨n33, n34⟩ := and_e n32
  obtain ⟨w_READ, ev_READ⟩ := exa_v n1
  have E_READ : Exa s s.heap w_READ "com/example/indexwarden/indexwarden/Privilege" := Exa.start ev_READ n1
  have S_READ : Sta s s.heap "com/example/indexwarden/indexwarden/Privilege" "READ" "Lcom/example/indexwarden/indexwarden/Privilege;" (.ref w_READ) := Sta.start ev_READ (Or.inr ⟨(hw _ (List.mem_of_getElem? (i := 3) rfl)), (hw _ (List.mem_of_getElem? (i := 4) rfl))⟩)
  obtain ⟨w_WRITE, ev_WRITE⟩ := exa_v n3
  have E_WRITE : Exa s s.heap w_WRITE "com/example/indexwarden/indexwarden/Privilege" := Exa.start ev_WRITE n3
  have S_WRITE : Sta s s.heap "com/example/indexwarden/indexwarden/Privilege" "WRITE" "Lcom/example/indexwarden/indexwarden/Privilege;" (.ref w_WRITE) := Sta.start ev_WRITE (Or.inr ⟨(hw _ (List.mem_of_getElem? (i := 3) rfl)), (hw _ (List.mem_of_getElem? (i := 7) rfl))⟩)
  obtain ⟨w_CREATE_INDEX, ev_CREATE_INDEX⟩ := exa_v n5
  have E_CREATE_INDEX : Exa s s.heap w_CREATE_INDEX "com/example/indexwarden/indexwarden/Privilege" := Exa.start ev_CREATE_INDEX n5
  have S_CREATE_INDEX : Sta s s.heap "com/example/indexwarden/indexwarden/Privilege" "CREATE_INDEX" "Lcom/example/indexwarden/indexwarden/Privilege;" (.ref w_CREATE_INDEX) := Sta.start ev_CREATE_INDEX (Or.inr ⟨(hw _ (List.mem_of_getElem? (i := 3) rfl)), (hw _ (List.mem_of_getElem? (i := 9) rfl))⟩)
  obtain ⟨w_DELETE_INDEX, ev_DELETE_INDEX⟩ := exa_v n7
  have E_DELETE_INDEX : Exa s s.heap w_DELETE_INDEX "com/example/indexwarden/indexwarden/Privilege" := Exa.start ev_DELETE_INDEX n7
  have S_DELETE_INDEX : Sta s s.heap "com/example/indexwarden/indexwarden/Privilege" "DELETE_INDEX" "Lcom/example/indexwarden/indexwarden/Privilege;" (.ref w_DELETE_INDEX) := Sta.start ev_DELETE_INDEX (Or.inr ⟨(hw _ (List.mem_of_getElem? (i := 3) rfl)), (hw _ (List.mem_of_getElem? (i := 11) rfl))⟩)
  obtain ⟨w_MANAGE, ev_MANAGE⟩ := exa_v n9
  have E_MANAGE : Exa s s.heap w_MANAGE "com/example/indexwarden/indexwarden/Privilege" := Exa.start ev_MANAGE n9
  have S_MANAGE : Sta s s.heap "com/example/indexwarden/indexwarden/Privilege" "MANAGE" "Lcom/example/indexwarden/indexwarden/Privilege;" (.ref w_MANAGE) := Sta.start ev_MANAGE (Or.inr ⟨(hw _ (List.mem_of_getElem? (i := 3) rfl)), (hw _ (List.mem_of_getElem? (i := 13) rfl))⟩)
  obtain ⟨w_VIEW_INDEX_METADATA, ev_VIEW_INDEX_METADATA⟩ := exa_v n11
  have E_VIEW_INDEX_METADATA : Exa s s.heap w_VIEW_INDEX_METADATA "com/example/indexwarden/indexwarden/Privilege" := Exa.start ev_VIEW_INDEX_METADATA n11
  have S_VIEW_INDEX_METADATA : Sta s s.heap "com/example/indexwarden/indexwarden/Privilege" "VIEW_INDEX_METADATA" "Lcom/example/indexwarden/indexwarden/Privilege;" (.ref w_VIEW_INDEX_METADATA) := Sta.start ev_VIEW_INDEX_METADATA (Or.inr ⟨(hw _ (List.mem_of_getElem? (i := 3) rfl)), (hw _ (List.mem_of_getElem? (i := 15) rfl))⟩)
  obtain ⟨w_MONITOR, ev_MONITOR⟩ := exa_v n13
  have E_MONITOR : Exa s s.heap w_MONITOR "com/example/indexwarden/indexwarden/Privilege" := Exa.start ev_MONITOR n13
  have S_MONITOR : Sta s s.heap "com/example/indexwarden/indexwarden/Privilege" "MONITOR" "Lcom/example/indexwarden/indexwarden/Privilege;" (.ref w_MONITOR) := Sta.start ev_MONITOR (Or.inr ⟨(hw _ (List.mem_of_getElem? (i := 3) rfl)), (hw _ (List.mem_of_getElem? (i := 17) rfl))⟩)
  obtain ⟨w_CLUSTER_MONITOR, ev_CLUSTER_MONITOR⟩ := exa_v n15
  have E_CLUSTER_MONITOR : Exa s s.heap w_CLUSTER_MONITOR "com/example/indexwarden/indexwarden/Privilege" := Exa.start ev_CLUSTER_MONITOR n15
  have S_CLUSTER_MONITOR : Sta s s.heap "com/example/indexwarden/indexwarden/Privilege" "CLUSTER_MONITOR" "Lcom/example/indexwarden/indexwarden/Privilege;" (.ref w_CLUSTER_MONITOR) := Sta.start ev_CLUSTER_MONITOR (Or.inr ⟨(hw _ (List.mem_of_getElem? (i := 3) rfl)), (hw _ (List.mem_of_getElem? (i := 19) rfl))⟩)
  obtain ⟨w_CLUSTER_MANAGE, ev_CLUSTER_MANAGE⟩ := exa_v n17
  have E_CLUSTER_MANAGE : Exa s s.heap w_CLUSTER_MANAGE "com/example/indexwarden/indexwarden/Privilege" := Exa.start ev_CLUSTER_MANAGE n17
  have S_CLUSTER_MANAGE : Sta s s.heap "com/example/indexwarden/indexwarden/Privilege" "CLUSTER_MANAGE" "Lcom/example/indexwarden/indexwarden/Privilege;" (.ref w_CLUSTER_MANAGE) := Sta.start ev_CLUSTER_MANAGE (Or.inr ⟨(hw _ (List.mem_of_getElem? (i := 3) rfl)), (hw _ (List.mem_of_getElem? (i := 21) rfl))⟩)
  have O_READ : s.fieldOf? w_READ "java/lang/Enum" "ordinal" "I" = some (.int (0 : Int32)) := (fld_at ev_READ).symm.trans (own_eqI n19)
  have O_CLUSTER_MONITOR : s.fieldOf? w_CLUSTER_MONITOR "java/lang/Enum" "ordinal" "I" = some (.int (7 : Int32)) := (fld_at ev_CLUSTER_MONITOR).symm.trans (own_eqI n21)
  have O_CLUSTER_MANAGE : s.fieldOf? w_CLUSTER_MANAGE "java/lang/Enum" "ordinal" "I" = some (.int (8 : Int32)) := (fld_at ev_CLUSTER_MANAGE).symm.trans (own_eqI n23)
  have O_DELETE_INDEX : s.fieldOf? w_DELETE_INDEX "java/lang/Enum" "ordinal" "I" = some (.int (3 : Int32)) := (fld_at ev_DELETE_INDEX).symm.trans (own_eqI n25)
  have O_VIEW_INDEX_METADATA : s.fieldOf? w_VIEW_INDEX_METADATA "java/lang/Enum" "ordinal" "I" = some (.int (5 : Int32)) := (fld_at ev_VIEW_INDEX_METADATA).symm.trans (own_eqI n27)
  have O_MONITOR : s.fieldOf? w_MONITOR "java/lang/Enum" "ordinal" "I" = some (.int (6 : Int32)) := (fld_at ev_MONITOR).symm.trans (own_eqI n29)
  have O_CREATE_INDEX : s.fieldOf? w_CREATE_INDEX "java/lang/Enum" "ordinal" "I" = some (.int (2 : Int32)) := (fld_at ev_CREATE_INDEX).symm.trans (own_eqI n31)
  have O_WRITE : s.fieldOf? w_WRITE "java/lang/Enum" "ordinal" "I" = some (.int (1 : Int32)) := (fld_at ev_WRITE).symm.trans (own_eqI n33)
  have O_MANAGE : s.fieldOf? w_MANAGE "java/lang/Enum" "ordinal" "I" = some (.int (4 : Int32)) := (fld_at ev_MANAGE).symm.trans (own_eqI n34)
  obtain ⟨n, o, h1, h2, h3, _, L, rfl, ⟨rfl, N⟩, hq⟩ := rm0 l s _ hw tables_1 i0 s.heap w_READ w_WRITE w_CREATE_INDEX w_DELETE_INDEX w_MANAGE w_VIEW_INDEX_METADATA w_MONITOR w_CLUSTER_MONITOR w_CLUSTER_MANAGE S_READ S_WRITE S_CREATE_INDEX S_DELETE_INDEX S_MANAGE S_VIEW_INDEX_METADATA S_MONITOR S_CLUSTER_MONITOR S_CLUSTER_MANAGE E_READ E_WRITE E_CREATE_INDEX E_DELETE_INDEX E_MANAGE E_VIEW_INDEX_METADATA E_MONITOR E_CLUSTER_MONITOR E_CLUSTER_MANAGE (fun a => s.fieldOf? a "java/lang/Enum" "ordinal" "I") O_READ O_WRITE O_CREATE_INDEX O_DELETE_INDEX O_MANAGE O_VIEW_INDEX_METADATA O_MONITOR O_CLUSTER_MONITOR O_CLUSTER_MANAGE p e ha hc hk s m _ below hf ((Spec.applies_iff_loose hf).mp happ).1 ⟨rfl, State.Warmed39.refl s, rfl⟩ trivial
  refine ⟨n, _, h1, h2, h3, hpost _ _ _ _ _ _ ⟨Cond.after_iff.mpr rfl, Cond.after_iff.mpr (eq_i res_at (Term.int_eval (1)) rfl), trivial⟩ ⟨hq.1, hq.2.1, (hq.2.2.sift fun y hy => Or.inr (N y hy)).mono (by decide) (by decide)⟩⟩
theorem main_1_1 : Claimed_1_1 := comes_1 fun _ _ _ _ _ _ h hF => ⟨h.1, hF⟩
theorem main_1_2 : Claimed_1_2 := comes_1 fun _ _ _ _ _ _ h hF => ⟨h.2.1, hF⟩
end Jvm.Pilot.@@N@@
namespace Jvm.Pilot.@@N@@
open Jvm Jvm.ClassFile Sem Op Lib Jvm.Free Jvm.Stand Jvm.Pilot.@@N@@.Jvm.D
/-! MADE BY PROGRAM (witnessworld.py) out of the Statement's table words and the real class files: 15 classes; the members and pool entries that the words name. The judged class is class 1, her method 1. -/
namespace start1
open Jvm.ClassFile
def u (s : String) : CpInfo := .utf8 (stringToUtf16 s)
/-- a pool by its gaps: so many unusable entries, then the entry; so many at the end -/
def gap : Nat → List CpInfo → List CpInfo
  | 0, r => r
  | n + 1, r => .unusable :: gap n r
def poolList (es : List (Nat × CpInfo)) (last : Nat) : List CpInfo := es.foldr (fun e r => gap e.1 (e.2 :: r)) (gap last [])
def pool (es : List (Nat × CpInfo)) (last : Nat) : Array CpInfo := ⟨poolList es last⟩
def fileOf (pool : Array CpInfo) (this : Nat) (attrs : Array Attribute := #[]) (ms : Array MethodInfo := #[]) (fl : Nat := 33) (sup : Nat := 0) (ifs : Array Nat := #[]) (fds : Array FieldInfo := #[]) : ClassFile where
  minorVersion := 0
  majorVersion := 65
  constantPool := pool
  accessFlags := fl
  thisClass := this
  superClass := sup
  interfaces := ifs
  fields := fds
  methods := ms
  attributes := attrs
def plain (name : String) (sup : Option ClassId) : Class where
  name := name
  kind := .ordinary
  loader := none
  accessFlags := 33
  super := sup
  interfaces := #[]
  cf := none
  fields := #[]
  methods := #[]
  instanceTypes := #[]
  staticTypes := #[]
  resolved := #[]
  callSites := []
  init := .initialized
  statics := none
  mirror := none

def pool0 : Array CpInfo := pool [(5, u "<init>"), (0, u "()V"), (1, .class_ 10), (1, u "java/lang/Object")] 113

def k0m0 : Method := { name := "<init>", desc := "()V", sig := { parameters := [], returnType := none }, accessFlags := 1, code := none }
/-- java/lang/Object -/
def k0 : Class := { plain "java/lang/Object" none with
  accessFlags := 33
  interfaces := #[]
  cf := some (fileOf pool0 8 #[] #[{ accessFlags := 1, nameIndex := 5, descriptorIndex := 6, attributes := #[] }] 33 0 #[] #[])
  fields := #[]
  methods := #[k0m0]
  instanceTypes := #[]
  staticTypes := #[]
  resolved := Array.replicate 124 none
  statics := none }

def pool1 : Array CpInfo := pool [(2, .class_ 4), (1, u "java/lang/Object"), (0, u "<init>"), (0, u "()V"), (0, .class_ 8), (0, u "com/example/indexwarden/indexwarden/Privilege"), (0, .fieldref 7 10), (0, .nameAndType 11 12), (0, u "READ"), (0, u "Lcom/example/indexwarden/indexwarden/Privilege;"), (0, .fieldref 7 14), (0, .nameAndType 15 12), (0, u "WRITE"), (0, .fieldref 7 17), (0, .nameAndType 18 12), (0, u "CREATE_INDEX"), (0, .fieldref 7 20), (0, .nameAndType 21 12), (0, u "DELETE_INDEX"), (0, .fieldref 7 23), (0, .nameAndType 24 12), (0, u "MANAGE"), (0, .fieldref 7 26), (0, .nameAndType 27 12), (0, u "VIEW_INDEX_METADATA"), (0, .fieldref 7 29), (0, .nameAndType 30 12), (0, u "MONITOR"), (0, .fieldref 7 32), (0, .nameAndType 33 12), (0, u "CLUSTER_MONITOR"), (0, .fieldref 7 35), (0, .nameAndType 36 12), (0, u "CLUSTER_MANAGE"), (0, .integer 2147483647), (0, .methodref 7 39), (0, .nameAndType 40 41), (0, u "narrows"), (0, u "()Z"), (0, .methodref 7 43), (0, .nameAndType 44 41), (0, u "isClusterLevel"), (0, .class_ 46), (0, u "com/example/indexwarden/indexwarden/PrivilegeNarrowsPinLaw"), (2, u "law"), (0, u "(I)Z")] 7

def k1m0 : Method := { name := "<init>", desc := "()V", sig := { parameters := [], returnType := none }, accessFlags := 1, code := none }
def k1c1 : Code := { maxStack := 4, maxLocals := 6, code := code, exceptionTable := #[], attributes := #[] }
def k1m1 : Method := { name := "law", desc := "(I)Z", sig := { parameters := [.int], returnType := some .boolean }, accessFlags := 9, code := some k1c1 }
/-- com/example/indexwarden/indexwarden/PrivilegeNarrowsPinLaw -/
def k1 : Class := { plain "com/example/indexwarden/indexwarden/PrivilegeNarrowsPinLaw" (some 0) with
  accessFlags := 49
  interfaces := #[]
  cf := some (fileOf pool1 45 #[] #[{ accessFlags := 1, nameIndex := 5, descriptorIndex := 6, attributes := #[] }, { accessFlags := 9, nameIndex := 49, descriptorIndex := 50, attributes := #[] }] 49 2 #[] #[])
  fields := #[]
  methods := #[k1m0, k1m1]
  instanceTypes := #[]
  staticTypes := #[]
  resolved := Array.replicate 58 none
  statics := none }

def pool2 : Array CpInfo := pool [(1, .class_ 2), (0, u "java/lang/constant/Constable"), (0, .class_ 4), (0, u "java/lang/Object")] 6

/-- java/lang/constant/Constable -/
def k2 : Class := { plain "java/lang/constant/Constable" (some 0) with
  accessFlags := 1537
  interfaces := #[]
  cf := some (fileOf pool2 1 #[] #[] 1537 3 #[] #[])
  fields := #[]
  methods := #[]
  instanceTypes := #[]
  staticTypes := #[]
  resolved := Array.replicate 11 none
  statics := none }

def pool3 : Array CpInfo := pool [(1, .class_ 2), (0, u "java/lang/Comparable"), (0, .class_ 4), (0, u "java/lang/Object")] 7

/-- java/lang/Comparable -/
def k3 : Class := { plain "java/lang/Comparable" (some 0) with
  accessFlags := 1537
  interfaces := #[]
  cf := some (fileOf pool3 1 #[] #[] 1537 3 #[] #[])
  fields := #[]
  methods := #[]
  instanceTypes := #[]
  staticTypes := #[]
  resolved := Array.replicate 12 none
  statics := none }

def pool4 : Array CpInfo := pool [(1, .class_ 2), (0, u "java/io/Serializable"), (0, .class_ 4), (0, u "java/lang/Object")] 2

/-- java/io/Serializable -/
def k4 : Class := { plain "java/io/Serializable" (some 0) with
  accessFlags := 1537
  interfaces := #[]
  cf := some (fileOf pool4 1 #[] #[] 1537 3 #[] #[])
  fields := #[]
  methods := #[]
  instanceTypes := #[]
  staticTypes := #[]
  resolved := Array.replicate 7 none
  statics := none }

def pool5 : Array CpInfo := pool [(2, .class_ 4), (1, u "java/lang/Enum"), (0, u "name"), (0, u "Ljava/lang/String;"), (2, u "ordinal"), (0, u "I"), (1, .class_ 14), (1, u "java/lang/Object"), (4, u "hash"), (86, .class_ 108), (1, u "java/lang/Enum$EnumDesc"), (2, .class_ 112), (0, u "java/lang/constant/Constable"), (0, .class_ 114), (0, u "java/lang/Comparable"), (0, .class_ 116), (0, u "java/io/Serializable")] 87

/-- java/lang/Enum -/
def k5 : Class := { plain "java/lang/Enum" (some 0) with
  accessFlags := 1057
  interfaces := #[2, 3, 4]
  cf := some (fileOf pool5 2 #[.nestMembers #[106]] #[] 1057 12 #[111, 113, 115] #[{ accessFlags := 18, nameIndex := 5, descriptorIndex := 6, attributes := #[] }, { accessFlags := 18, nameIndex := 9, descriptorIndex := 10, attributes := #[] }, { accessFlags := 2, nameIndex := 19, descriptorIndex := 10, attributes := #[] }])
  fields := #[{ name := "name", type := (.object "java/lang/String"), accessFlags := 18, slot := 0, constantValue := 0 }, { name := "ordinal", type := .int, accessFlags := 18, slot := 1, constantValue := 0 }, { name := "hash", type := .int, accessFlags := 2, slot := 2, constantValue := 0 }]
  methods := #[]
  instanceTypes := #[(.object "java/lang/String"), .int, .int]
  staticTypes := #[]
  resolved := Array.replicate 204 none
  statics := none }

def pool6 : Array CpInfo := pool [(1, .class_ 2), (0, u "com/example/indexwarden/indexwarden/Privilege"), (0, .fieldref 1 4), (0, .nameAndType 5 6), (0, u "READ"), (0, u "Lcom/example/indexwarden/indexwarden/Privilege;"), (2, u "WRITE"), (2, u "CREATE_INDEX"), (2, u "DELETE_INDEX"), (2, u "MANAGE"), (0, .fieldref 1 20), (0, .nameAndType 21 6), (0, u "VIEW_INDEX_METADATA"), (0, .fieldref 1 23), (0, .nameAndType 24 6), (0, u "MONITOR"), (0, .fieldref 1 26), (0, .nameAndType 27 6), (0, u "CLUSTER_MONITOR"), (0, .fieldref 1 29), (0, .nameAndType 30 6), (0, u "CLUSTER_MANAGE"), (2, u "$VALUES"), (0, u "[Lcom/example/indexwarden/indexwarden/Privilege;"), (6, .class_ 43), (1, u "java/lang/Enum"), (49, u "()Z"), (73, u "GRANTS"), (0, u "Ljava/util/Map;"), (37, u "narrows"), (0, u "isClusterLevel")] 12

def k6c0 : Code := { maxStack := 2, maxLocals := 1, code := prog_51_method_7_code, exceptionTable := #[], attributes := #[] }
def k6m0 : Method := { name := "narrows", desc := "()Z", sig := { parameters := [], returnType := some .boolean }, accessFlags := 0, code := some k6c0 }
def k6c1 : Code := { maxStack := 2, maxLocals := 1, code := prog_51_method_8_code, exceptionTable := #[], attributes := #[] }
def k6m1 : Method := { name := "isClusterLevel", desc := "()Z", sig := { parameters := [], returnType := some .boolean }, accessFlags := 0, code := some k6c1 }
/-- com/example/indexwarden/indexwarden/Privilege -/
def k6 : Class := { plain "com/example/indexwarden/indexwarden/Privilege" (some 5) with
  accessFlags := 16432
  interfaces := #[]
  cf := some (fileOf pool6 1 #[] #[{ accessFlags := 0, nameIndex := 206, descriptorIndex := 93, attributes := #[] }, { accessFlags := 0, nameIndex := 207, descriptorIndex := 93, attributes := #[] }] 16432 41 #[] #[{ accessFlags := 16409, nameIndex := 5, descriptorIndex := 6, attributes := #[] }, { accessFlags := 16409, nameIndex := 9, descriptorIndex := 6, attributes := #[] }, { accessFlags := 16409, nameIndex := 12, descriptorIndex := 6, attributes := #[] }, { accessFlags := 16409, nameIndex := 15, descriptorIndex := 6, attributes := #[] }, { accessFlags := 16409, nameIndex := 18, descriptorIndex := 6, attributes := #[] }, { accessFlags := 16409, nameIndex := 21, descriptorIndex := 6, attributes := #[] }, { accessFlags := 16409, nameIndex := 24, descriptorIndex := 6, attributes := #[] }, { accessFlags := 16409, nameIndex := 27, descriptorIndex := 6, attributes := #[] }, { accessFlags := 16409, nameIndex := 30, descriptorIndex := 6, attributes := #[] }, { accessFlags := 26, nameIndex := 167, descriptorIndex := 168, attributes := #[] }, { accessFlags := 4122, nameIndex := 33, descriptorIndex := 34, attributes := #[] }])
  fields := #[{ name := "READ", type := (.object "com/example/indexwarden/indexwarden/Privilege"), accessFlags := 16409, slot := 0, constantValue := 0 }, { name := "WRITE", type := (.object "com/example/indexwarden/indexwarden/Privilege"), accessFlags := 16409, slot := 1, constantValue := 0 }, { name := "CREATE_INDEX", type := (.object "com/example/indexwarden/indexwarden/Privilege"), accessFlags := 16409, slot := 2, constantValue := 0 }, { name := "DELETE_INDEX", type := (.object "com/example/indexwarden/indexwarden/Privilege"), accessFlags := 16409, slot := 3, constantValue := 0 }, { name := "MANAGE", type := (.object "com/example/indexwarden/indexwarden/Privilege"), accessFlags := 16409, slot := 4, constantValue := 0 }, { name := "VIEW_INDEX_METADATA", type := (.object "com/example/indexwarden/indexwarden/Privilege"), accessFlags := 16409, slot := 5, constantValue := 0 }, { name := "MONITOR", type := (.object "com/example/indexwarden/indexwarden/Privilege"), accessFlags := 16409, slot := 6, constantValue := 0 }, { name := "CLUSTER_MONITOR", type := (.object "com/example/indexwarden/indexwarden/Privilege"), accessFlags := 16409, slot := 7, constantValue := 0 }, { name := "CLUSTER_MANAGE", type := (.object "com/example/indexwarden/indexwarden/Privilege"), accessFlags := 16409, slot := 8, constantValue := 0 }, { name := "GRANTS", type := (.object "java/util/Map"), accessFlags := 26, slot := 9, constantValue := 0 }, { name := "$VALUES", type := (.array (.object "com/example/indexwarden/indexwarden/Privilege")), accessFlags := 4122, slot := 10, constantValue := 0 }]
  methods := #[k6m0, k6m1]
  instanceTypes := #[(.object "java/lang/String"), .int, .int]
  staticTypes := #[(.object "com/example/indexwarden/indexwarden/Privilege"), (.object "com/example/indexwarden/indexwarden/Privilege"), (.object "com/example/indexwarden/indexwarden/Privilege"), (.object "com/example/indexwarden/indexwarden/Privilege"), (.object "com/example/indexwarden/indexwarden/Privilege"), (.object "com/example/indexwarden/indexwarden/Privilege"), (.object "com/example/indexwarden/indexwarden/Privilege"), (.object "com/example/indexwarden/indexwarden/Privilege"), (.object "com/example/indexwarden/indexwarden/Privilege"), (.object "java/util/Map"), (.array (.object "com/example/indexwarden/indexwarden/Privilege"))]
  resolved := Array.replicate 220 none
  statics := some 0 }

def pool7 : Array CpInfo := pool [(1, u "java/lang/Cloneable"), (0, .class_ 1), (0, u "java/lang/Object"), (0, .class_ 3)] 3

/-- java/lang/Cloneable -/
def k7 : Class := { plain "java/lang/Cloneable" (some 0) with
  accessFlags := 1537
  interfaces := #[]
  cf := some (fileOf pool7 2 #[] #[] 1537 4 #[] #[])
  fields := #[]
  methods := #[]
  instanceTypes := #[]
  staticTypes := #[]
  resolved := Array.replicate 8 none
  statics := none }

/-- the primitive boolean -/
def k8 : Class := { plain "boolean" none with kind := .primitive 'Z', accessFlags := 0x411 }
/-- [Z -/
def k9 : Class := { plain "[Z" (some 0) with kind := .array 8 .boolean, interfaces := #[7, 4], accessFlags := 1041 }

/-- the primitive byte -/
def k10 : Class := { plain "byte" none with kind := .primitive 'B', accessFlags := 0x411 }
/-- [B -/
def k11 : Class := { plain "[B" (some 0) with kind := .array 10 .byte, interfaces := #[7, 4], accessFlags := 1041 }

/-- the primitive int -/
def k12 : Class := { plain "int" none with kind := .primitive 'I', accessFlags := 0x411 }
/-- [I -/
def k13 : Class := { plain "[I" (some 0) with kind := .array 12 .int, interfaces := #[7, 4], accessFlags := 1041 }

/-- [Lcom/example/indexwarden/indexwarden/Privilege; -/
def k14 : Class := { plain "[Lcom/example/indexwarden/indexwarden/Privilege;" (some 0) with kind := .array 6 (.object "com/example/indexwarden/indexwarden/Privilege"), interfaces := #[7, 4], accessFlags := 1041 }

def heap : Heap := #[{ cls := 6, slots := #[.ref 1, .ref 2, .ref 3, .ref 4, .ref 5, .ref 6, .ref 7, .ref 8, .ref 9, .null, .null], vm := .statics 6 },
  { cls := 6, slots := #[.null, .int 0, .int 0], vm := .none },
  { cls := 6, slots := #[.null, .int 1, .int 0], vm := .none },
  { cls := 6, slots := #[.null, .int 2, .int 0], vm := .none },
  { cls := 6, slots := #[.null, .int 3, .int 0], vm := .none },
  { cls := 6, slots := #[.null, .int 4, .int 0], vm := .none },
  { cls := 6, slots := #[.null, .int 5, .int 0], vm := .none },
  { cls := 6, slots := #[.null, .int 6, .int 0], vm := .none },
  { cls := 6, slots := #[.null, .int 7, .int 0], vm := .none },
  { cls := 6, slots := #[.null, .int 8, .int 0], vm := .none }]
def classes : Array Class := #[k0, k1, k2, k3, k4, k5, k6, k7, k8, k9, k10, k11, k12, k13, k14]
def interned : List (Array UInt16 × Addr) := []
def slotsUsed : Nat := 38
def theMethod : MethodId := ⟨1, 1⟩
def args0 : Array Value := #[.int 5]
def aboutOver (below : List Frame) : State where
  vm := { classes := classes, interned := interned.toArray }
  heap := heap
  slotsUsed := slotsUsed
  threads := #[{ frames := .invoking theMethod args0 :: below }]
def below0 : List Frame := [.native { method := ⟨0, 0⟩, args := #[] }]
def about1 : State := aboutOver below0
def p0 : Program := .bare "" "" ""
def e0 : Env := launch0.env 0 0 0
theorem w_frames : about1.frames = Frame.invoking theMethod args0 :: below0 := rfl
set_option maxRecDepth 65536 in
theorem w_args : argsFit about1.vm theMethod args0 = true := by decide +kernel
set_option maxRecDepth 65536 in
theorem w_heap : heapFits about1 = true := by decide +kernel
set_option maxRecDepth 65536 in
theorem w_runnable : about1.curStatus? = some .runnable := by decide +kernel
set_option maxRecDepth 65536 in
theorem w_alone : about1.alone = true := by decide +kernel
set_option maxRecDepth 65536 in
theorem w_named : about1.methodNamed? x = some theMethod := by decide +kernel
set_option maxRecDepth 65536 in
theorem w_hears : about1.hears theMethod below0 = true := by decide +kernel
set_option maxRecDepth 65536 in
theorem w_ripe : about1.ripe theMethod args0 below0 = true := by decide +kernel
theorem w_running : about1.status = .running := rfl
set_option maxRecDepth 65536 in
theorem w_room : about1.hasRoom e0.platform room_1 = true :=
  launch0.hasRoom_least _ room_1 (by decide +kernel) (by decide +kernel) (by decide +kernel) (by decide +kernel) (by decide +kernel) (by decide +kernel)
theorem allAtoms_all (ts : List Jvm.Cond) (a : Array Jvm.Value) (st : Jvm.State) : (allAtoms ts).before a st = ts.all (fun c => c.before a st) := by
  induction ts with
  | nil => rfl
  | cons c t ih =>
    show (Jvm.Cond.and c (allAtoms t)).before a st = _
    rw [Jvm.Cond.before_and, ih, List.all_cons]
def words1 : List Jvm.Cond := Jvm.Cond.code x code maxLocals ret :: tables_1
/-- a 'code' word, met by the world's own term for the bytes: nothing is compared byte by byte -/
theorem code_word {y : MethodName} {bytes : ByteArray} {mx : Nat} {rt : Option FieldType} {a : Array Value} {s : State} {m : MethodId} {meth : Method} {c : Code} (h1 : s.methodNamed? y = some m) (h2 : s.vm.method? m = some meth) (h3 : meth.code = some c) (h4 : c.code = bytes)
    (h5 : (c.maxLocals == mx && c.exceptionTable.isEmpty && decide (c.maxStack ≤ mostOperands) && decide (meth.sig.returnType = rt) && !meth.locks && decide (parseMethodDescriptor y.desc = some meth.sig)) = true) : (Jvm.Cond.code y bytes mx rt).before a s = true := by
  simp only [Bool.and_eq_true, beq_iff_eq, Bool.not_eq_true', decide_eq_true_eq] at h5
  obtain ⟨⟨⟨⟨⟨g1, g2⟩, g3⟩, g4⟩, g5⟩, g6⟩ := h5
  simp [Cond.before, Cond.holds, Cond.value, h1, h2, h3, h4, g1, g2, g3, g4, g5, g6]
def isCode : Jvm.Cond → Bool
  | .code _ _ _ _ => true
  | _ => false
theorem all_split {L : List Jvm.Cond} {P : Jvm.Cond → Bool} (h1 : L.all (fun c => isCode c || P c) = true) (h2 : ∀ c ∈ L.filter isCode, P c = true) : L.all P = true := by
  refine List.all_eq_true.mpr fun c hc => ?_
  have h := List.all_eq_true.mp h1 c hc
  rcases Bool.eq_false_or_eq_true (isCode c) with hi | hi
  · exact h2 c (List.mem_filter.mpr ⟨hc, hi⟩)
  · simpa [hi] using h
set_option maxRecDepth 65536 in
theorem w_c0 : (Jvm.Cond.code x code maxLocals ret).before args0 about1 = true := code_word (m := ⟨1, 1⟩) (meth := k1m1) (c := k1c1) (by decide +kernel) rfl rfl rfl (by decide +kernel)
set_option maxRecDepth 65536 in
theorem w_c1 : (Jvm.Cond.code ({ cls := "com/example/indexwarden/indexwarden/Privilege", name := "narrows", desc := "()Z" } : Jvm.MethodName) prog_51_method_7_code (1 : Nat) (Option.some Jvm.ClassFile.FieldType.boolean)).before args0 about1 = true := code_word (m := ⟨6, 0⟩) (meth := k6m0) (c := k6c0) (by decide +kernel) rfl rfl rfl (by decide +kernel)
set_option maxRecDepth 65536 in
theorem w_c2 : (Jvm.Cond.code ({ cls := "com/example/indexwarden/indexwarden/Privilege", name := "isClusterLevel", desc := "()Z" } : Jvm.MethodName) prog_51_method_8_code (1 : Nat) (Option.some Jvm.ClassFile.FieldType.boolean)).before args0 about1 = true := code_word (m := ⟨6, 1⟩) (meth := k6m1) (c := k6c1) (by decide +kernel) rfl rfl rfl (by decide +kernel)
def codes1 : List Jvm.Cond := [Jvm.Cond.code x code maxLocals ret, Jvm.Cond.code ({ cls := "com/example/indexwarden/indexwarden/Privilege", name := "narrows", desc := "()Z" } : Jvm.MethodName) prog_51_method_7_code (1 : Nat) (Option.some Jvm.ClassFile.FieldType.boolean), Jvm.Cond.code ({ cls := "com/example/indexwarden/indexwarden/Privilege", name := "isClusterLevel", desc := "()Z" } : Jvm.MethodName) prog_51_method_8_code (1 : Nat) (Option.some Jvm.ClassFile.FieldType.boolean)]
set_option maxRecDepth 65536 in
theorem codes_eq : words1.filter isCode = codes1 := rfl
theorem w_codes : ∀ c ∈ words1.filter isCode, c.before args0 about1 = true := by
  rw [codes_eq]
  intro c hc
  simp only [codes1, List.mem_cons, List.not_mem_nil, or_false] at hc
  rcases hc with rfl | rfl | rfl
  · exact w_c0
  · exact w_c1
  · exact w_c2
set_option maxRecDepth 65536 in
theorem w_t1 : (words1.take 24).all (fun c => isCode c || c.before args0 about1) = true := by decide +kernel
set_option maxRecDepth 65536 in
theorem w_t2 : (words1.drop 24).all (fun c => isCode c || c.before args0 about1) = true := by decide +kernel
theorem w_tables : (allAtoms (Jvm.Cond.code x code maxLocals ret :: tables_1)).before args0 about1 = true := by
  rw [allAtoms_all]
  show words1.all (fun c => c.before args0 about1) = true
  refine all_split ?_ w_codes
  rw [← List.take_append_drop 24 words1, List.all_append, w_t1, w_t2]
  rfl
set_option maxRecDepth 65536 in
theorem w_case : (Jvm.Cond.and given_1 narrow_1).before args0 about1 = true := by decide +kernel
theorem w_applies : (headSpec (Jvm.Cond.code x code maxLocals ret :: tables_1) room_1).applies x e0.platform about1 = true :=
  (Spec.applies_iff w_frames).mpr ⟨w_running, w_runnable, w_alone, w_named, w_hears, w_ripe, w_room, w_tables⟩
theorem atStart : AtStart classFile x code maxLocals ret World_1 tables_1 room_1 Calls_1 rest_1 Pre_1 launch0 p0 e0 about1 theMethod args0 below0 :=
  ⟨lists_1, trivial, launch0.admits_env _ _ _, launch0.least_env, fairChoices_fair.cas, fairChoices_fair.clock, w_frames, w_args, w_heap, w_applies, trivial, trivial, w_case⟩
end start1
theorem witness_1 : WitnessClaimed_1 := ⟨start1.p0, start1.e0, start1.about1, start1.theMethod, start1.args0, start1.below0, start1.atStart⟩
end Jvm.Pilot.@@N@@
