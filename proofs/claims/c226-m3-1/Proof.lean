import JvmDerived
import JvmDerived.Pilot.@@N@@Statement
import JvmDerived.Pilot.@@N@@Code
set_option linter.unusedVariables false
set_option linter.unusedSimpArgs false
namespace Jvm.EKit
open Sem ClassFile Op Lib Jvm.Stand Jvm.Free Jvm.LawKit Jvm.RoadKit
/-- from the frame F at T the body comes to a return that answers Q -/
def Ends (p : Program) (l : Launch) (e : Env) (R : Room) (s : State) (m : MethodId) (args : Array Value) (below : List Frame) (meth : Method) (c : Code) (C S : Nat) (Q : Option Value → Heap → List Loc → Prop) (T : State) (F : JFrame) : Prop :=
  ∃ (T' : State) (locs : List Loc) (cells slots : Nat) (v : Option Value), Stand p l e R s m args below meth c T' locs cells slots ∧ Q v T'.heap locs ∧ cells ≤ C ∧ slots ≤ S ∧ (meth.sig.returnType = none → v = none) ∧
    ∀ fs, (∀ (f : JFrame) (acts : List Action), f.method = m → f.locked = none → f.entered = [] → (doReturn e (T'.setTop f) acts v).1 = T'.setFrames fs) → Steps p.tables e below (T.setTop F) (T'.setFrames fs)
/-- the contract of a body -/
def Pays (l : Launch) (Z : State) (y : MethodName) (bytes : ByteArray) (maxL : Nat) (ret : Option FieldType) (ws : List Jvm.Cond) (rm : Room) (as' : Array Value) (h : Heap) (Q : Option Value → Heap → List Loc → Prop) : Prop :=
  MetFree l y (head1 (Jvm.Cond.code y bytes maxL ret :: ws) rm) (fun a U => a = as' ∧ Z.Warmed39 U.vm ∧ U.heap = h) (fun _ _ _ _ _ => True) (fun _ U o U' => ∃ v L, o = .returned v ∧ Q v U'.heap L ∧ FrameEnd U o U' L rm.cells rm.slots)
/-- it returns V and writes nothing -/
def RetQ (V : Option Value) (h : Heap) : Option Value → Heap → List Loc → Prop := fun v h' L => v = V ∧ h' = h ∧ L = []
section
variable {p : Program} {l : Launch} {e : Env} {R : Room} {s : State} {m : MethodId} {args : Array Value} {below : List Frame} {meth : Method} {c : Code} {T : State} {locs : List Loc} {cells slots : Nat} {C S : Nat} {Q : Option Value → Heap → List Loc → Prop} {pc q : Nat} {Ls : Array Slot} {st rest : List Value}
theorem step {T1 : State} {F F1 : JFrame} (h : ∀ t, Steps p.tables e below (T1.setTop F1) t → Steps p.tables e below (T.setTop F) t) (k : Ends p l e R s m args below meth c C S Q T1 F1) : Ends p l e R s m args below meth c C S Q T F := by
  obtain ⟨T', locs, cells, slots, v, h1, h2, h3, h4, h5, h6⟩ := k
  exact ⟨T', locs, cells, slots, v, h1, h2, h3, h4, h5, fun fs hl => h _ (h6 fs hl)⟩
theorem pays {Z : State} {y : MethodName} {bytes : ByteArray} {maxL : Nat} {ret : Option FieldType} {ws : List Jvm.Cond} {rm : Room} {as' : Array Value} {h : Heap} (hpl : plainFor y = true) {F0 : MethodId → JFrame} (hF : ∀ m, entryFrame m as' maxL = F0 m)
    (k : ∀ (p : Program) (e : Env) (s : State) (m : MethodId) (below : List Frame) (meth : Method) (c : Code) (s₁ : State), p.tables.exec = Jvm.exec → c.code = bytes → c.maxLocals = maxL → Z.Warmed39 s.vm → s.vm.findClass y.cls = some m.cls → meth.name = y.name → meth.sig.returnType = ret → Stand p l e rm s m as' below meth c s₁ [] 0 0 → s₁.heap = h → s.heap = h →
      Ends p l e rm s m as' below meth c rm.cells rm.slots Q s₁ (F0 m)) : Pays l Z y bytes maxL ret ws rm as' h Q := by
  refine MetFree.of_bodySF hpl hisR ?_
  intro p e s m args below meth c s₁ Bd hml0 hP hK
  obtain ⟨rfl, hZ, hh⟩ := hP
  obtain ⟨T', locs, cells, slots, v, X, hQ, h3, h4, h5, h6⟩ := k p e s m below meth c s₁ Bd.exec Bd.bytes hml0 hZ (findClass_of_methodNamed Bd.named) (name_of_methodNamed Bd.named Bd.method).1 Bd.returns (Stand.of_body Bd) (by rw [← hh, Bd.state]; rfl) hh
  obtain ⟨fs, hr, hrun, hended, hW, hsame⟩ := X.leave (v := v) h5
  exact ⟨_, _, castTop (hF m) (h6 fs hr), hrun, hended, v, locs, rfl, hQ, ⟨_, rfl⟩, hW, hsame.mono h3 h4⟩
theorem iloadN (X : Stand p l e R s m args below meth c T locs cells slots) (hx : p.tables.exec = Jvm.exec) {k0 : Fin 4} {v : Int32} (hl : Ls[k0.val]? = some (.val (.int v))) (hd : decode c.code pc = .ok (.iload_n k0, 1)) (hq : pc + 1 = q) (k : Ends p l e R s m args below meth c C S Q T (mkF m q Ls (.int v :: st))) : Ends p l e R s m args below meth c C S Q T (mkF m pc Ls (st)) := step (fun _ h => by subst hq; exact XS.iloadN X.here hx rfl hd hl h) k
theorem iload (X : Stand p l e R s m args below meth c T locs cells slots) (hx : p.tables.exec = Jvm.exec) {k0 : Nat} {v : Int32} (hl : Ls[k0]? = some (.val (.int v))) (hd : decode c.code pc = .ok (.iload k0, 2)) (hq : pc + 2 = q) (k : Ends p l e R s m args below meth c C S Q T (mkF m q Ls (.int v :: st))) : Ends p l e R s m args below meth c C S Q T (mkF m pc Ls (st)) := step (fun _ h => by subst hq; exact XS.iload X.here hx rfl hd hl h) k
theorem istoreN (X : Stand p l e R s m args below meth c T locs cells slots) (hx : p.tables.exec = Jvm.exec) {k0 : Fin 4} {v : Int32} {l' : Array Slot} (hl : storeLocals Ls k0.val (.int v) = some l') (hd : decode c.code pc = .ok (.istore_n k0, 1)) (hq : pc + 1 = q) (k : Ends p l e R s m args below meth c C S Q T (mkF m q l' (st))) : Ends p l e R s m args below meth c C S Q T (mkF m pc Ls (.int v :: st)) := step (fun _ h => by subst hq; exact XS.istoreN X.here hx rfl hd rfl hl h) k
theorem istore (X : Stand p l e R s m args below meth c T locs cells slots) (hx : p.tables.exec = Jvm.exec) {k0 : Nat} {v : Int32} {l' : Array Slot} (hl : storeLocals Ls k0 (.int v) = some l') (hd : decode c.code pc = .ok (.istore k0, 2)) (hq : pc + 2 = q) (k : Ends p l e R s m args below meth c C S Q T (mkF m q l' (st))) : Ends p l e R s m args below meth c C S Q T (mkF m pc Ls (.int v :: st)) := step (fun _ h => by subst hq; exact XS.istore X.here hx rfl hd rfl hl h) k
theorem lloadN (X : Stand p l e R s m args below meth c T locs cells slots) (hx : p.tables.exec = Jvm.exec) {k0 : Fin 4} {v : Int64} (hl : Ls[k0.val]? = some (.val (.long v))) (hd : decode c.code pc = .ok (.lload_n k0, 1)) (hq : pc + 1 = q) (k : Ends p l e R s m args below meth c C S Q T (mkF m q Ls (.long v :: st))) : Ends p l e R s m args below meth c C S Q T (mkF m pc Ls (st)) := step (fun _ h => by subst hq; exact XS.lloadN X.here hx rfl hd hl h) k
theorem lload (X : Stand p l e R s m args below meth c T locs cells slots) (hx : p.tables.exec = Jvm.exec) {k0 : Nat} {v : Int64} (hl : Ls[k0]? = some (.val (.long v))) (hd : decode c.code pc = .ok (.lload k0, 2)) (hq : pc + 2 = q) (k : Ends p l e R s m args below meth c C S Q T (mkF m q Ls (.long v :: st))) : Ends p l e R s m args below meth c C S Q T (mkF m pc Ls (st)) := step (fun _ h => by subst hq; exact XS.lload X.here hx rfl hd hl h) k
theorem lstoreN (X : Stand p l e R s m args below meth c T locs cells slots) (hx : p.tables.exec = Jvm.exec) {k0 : Fin 4} {v : Int64} {l' : Array Slot} (hl : storeLocals Ls k0.val (.long v) = some l') (hd : decode c.code pc = .ok (.lstore_n k0, 1)) (hq : pc + 1 = q) (k : Ends p l e R s m args below meth c C S Q T (mkF m q l' (st))) : Ends p l e R s m args below meth c C S Q T (mkF m pc Ls (.long v :: st)) := step (fun _ h => by subst hq; exact XS.lstoreN X.here hx rfl hd rfl hl h) k
theorem lstore (X : Stand p l e R s m args below meth c T locs cells slots) (hx : p.tables.exec = Jvm.exec) {k0 : Nat} {v : Int64} {l' : Array Slot} (hl : storeLocals Ls k0 (.long v) = some l') (hd : decode c.code pc = .ok (.lstore k0, 2)) (hq : pc + 2 = q) (k : Ends p l e R s m args below meth c C S Q T (mkF m q l' (st))) : Ends p l e R s m args below meth c C S Q T (mkF m pc Ls (.long v :: st)) := step (fun _ h => by subst hq; exact XS.lstore X.here hx rfl hd rfl hl h) k
theorem aloadN (X : Stand p l e R s m args below meth c T locs cells slots) (hx : p.tables.exec = Jvm.exec) {k0 : Fin 4} {v : Value} (hl : Ls[k0.val]? = some (.val v)) (hv : v.isRef = true) (hd : decode c.code pc = .ok (.aload_n k0, 1)) (hq : pc + 1 = q) (k : Ends p l e R s m args below meth c C S Q T (mkF m q Ls (v :: st))) : Ends p l e R s m args below meth c C S Q T (mkF m pc Ls (st)) := step (fun _ h => by subst hq; exact XS.aloadN X.here hx rfl hd hl hv h) k
theorem aload (X : Stand p l e R s m args below meth c T locs cells slots) (hx : p.tables.exec = Jvm.exec) {k0 : Nat} {v : Value} (hl : Ls[k0]? = some (.val v)) (hv : v.isRef = true) (hd : decode c.code pc = .ok (.aload k0, 2)) (hq : pc + 2 = q) (k : Ends p l e R s m args below meth c C S Q T (mkF m q Ls (v :: st))) : Ends p l e R s m args below meth c C S Q T (mkF m pc Ls (st)) := step (fun _ h => by subst hq; exact XS.aload X.here hx rfl hd hl hv h) k
theorem astoreN (X : Stand p l e R s m args below meth c T locs cells slots) (hx : p.tables.exec = Jvm.exec) {k0 : Fin 4} {v : Value} {l' : Array Slot} (hv : v.isRef = true) (hl : storeLocals Ls k0.val v = some l') (hd : decode c.code pc = .ok (.astore_n k0, 1)) (hq : pc + 1 = q) (k : Ends p l e R s m args below meth c C S Q T (mkF m q l' (st))) : Ends p l e R s m args below meth c C S Q T (mkF m pc Ls (v :: st)) := step (fun _ h => by subst hq; exact XS.astoreN X.here hx rfl hd rfl hv hl h) k
theorem astore (X : Stand p l e R s m args below meth c T locs cells slots) (hx : p.tables.exec = Jvm.exec) {k0 : Nat} {v : Value} {l' : Array Slot} (hv : v.isRef = true) (hl : storeLocals Ls k0 v = some l') (hd : decode c.code pc = .ok (.astore k0, 2)) (hq : pc + 2 = q) (k : Ends p l e R s m args below meth c C S Q T (mkF m q l' (st))) : Ends p l e R s m args below meth c C S Q T (mkF m pc Ls (v :: st)) := step (fun _ h => by subst hq; exact XS.astore X.here hx rfl hd rfl hv hl h) k
theorem iconst (X : Stand p l e R s m args below meth c T locs cells slots) (hx : p.tables.exec = Jvm.exec) {i : Int} {v : Int32} (hv : Int32.ofInt i = v) (hd : decode c.code pc = .ok (.iconst i, 1)) (hq : pc + 1 = q) (k : Ends p l e R s m args below meth c C S Q T (mkF m q Ls (.int v :: st))) : Ends p l e R s m args below meth c C S Q T (mkF m pc Ls (st)) := step (fun _ h => by subst hq; exact XS.iconst X.here hx rfl hd (by rw [hv]; exact h)) k
theorem bipush (X : Stand p l e R s m args below meth c T locs cells slots) (hx : p.tables.exec = Jvm.exec) {i : Int} {v : Int32} (hv : (Int8.ofInt i).toInt32 = v) (hd : decode c.code pc = .ok (.bipush i, 2)) (hq : pc + 2 = q) (k : Ends p l e R s m args below meth c C S Q T (mkF m q Ls (.int v :: st))) : Ends p l e R s m args below meth c C S Q T (mkF m pc Ls (st)) := step (fun _ h => by subst hq; exact XS.bipush X.here hx rfl hd (by rw [hv]; exact h)) k
theorem sipush (X : Stand p l e R s m args below meth c T locs cells slots) (hx : p.tables.exec = Jvm.exec) {i : Int} {v : Int32} (hv : (Int16.ofInt i).toInt32 = v) (hd : decode c.code pc = .ok (.sipush i, 3)) (hq : pc + 3 = q) (k : Ends p l e R s m args below meth c C S Q T (mkF m q Ls (.int v :: st))) : Ends p l e R s m args below meth c C S Q T (mkF m pc Ls (st)) := step (fun _ h => by subst hq; exact XS.sipush X.here hx rfl hd (by rw [hv]; exact h)) k
theorem lconst (X : Stand p l e R s m args below meth c T locs cells slots) (hx : p.tables.exec = Jvm.exec) {i : Fin 2} {v : Int64} (hv : Int64.ofNat i = v) (hd : decode c.code pc = .ok (.lconst i, 1)) (hq : pc + 1 = q) (k : Ends p l e R s m args below meth c C S Q T (mkF m q Ls (.long v :: st))) : Ends p l e R s m args below meth c C S Q T (mkF m pc Ls (st)) := step (fun _ h => by subst hq; exact XS.lconst X.here hx rfl hd (by rw [hv]; exact h)) k
theorem aconstNull (X : Stand p l e R s m args below meth c T locs cells slots) (hx : p.tables.exec = Jvm.exec)  (hd : decode c.code pc = .ok (.aconst_null, 1)) (hq : pc + 1 = q) (k : Ends p l e R s m args below meth c C S Q T (mkF m q Ls (.null :: st))) : Ends p l e R s m args below meth c C S Q T (mkF m pc Ls (st)) := step (fun _ h => by subst hq; exact XS.aconstNull X.here hx rfl hd h) k
theorem iadd (X : Stand p l e R s m args below meth c T locs cells slots) (hx : p.tables.exec = Jvm.exec) {x y : Int32} (hd : decode c.code pc = .ok (.iadd, 1)) (hq : pc + 1 = q) (k : Ends p l e R s m args below meth c C S Q T (mkF m q Ls (.int (x + y) :: st))) : Ends p l e R s m args below meth c C S Q T (mkF m pc Ls (.int y :: .int x :: st)) := step (fun _ h => by subst hq; exact XS.iadd X.here hx rfl hd rfl h) k
theorem isub (X : Stand p l e R s m args below meth c T locs cells slots) (hx : p.tables.exec = Jvm.exec) {x y : Int32} (hd : decode c.code pc = .ok (.isub, 1)) (hq : pc + 1 = q) (k : Ends p l e R s m args below meth c C S Q T (mkF m q Ls (.int (x - y) :: st))) : Ends p l e R s m args below meth c C S Q T (mkF m pc Ls (.int y :: .int x :: st)) := step (fun _ h => by subst hq; exact XS.isub X.here hx rfl hd rfl h) k
theorem imul (X : Stand p l e R s m args below meth c T locs cells slots) (hx : p.tables.exec = Jvm.exec) {x y : Int32} (hd : decode c.code pc = .ok (.imul, 1)) (hq : pc + 1 = q) (k : Ends p l e R s m args below meth c C S Q T (mkF m q Ls (.int (x * y) :: st))) : Ends p l e R s m args below meth c C S Q T (mkF m pc Ls (.int y :: .int x :: st)) := step (fun _ h => by subst hq; exact XS.imul X.here hx rfl hd rfl h) k
theorem iand (X : Stand p l e R s m args below meth c T locs cells slots) (hx : p.tables.exec = Jvm.exec) {x y : Int32} (hd : decode c.code pc = .ok (.iand, 1)) (hq : pc + 1 = q) (k : Ends p l e R s m args below meth c C S Q T (mkF m q Ls (.int (x &&& y) :: st))) : Ends p l e R s m args below meth c C S Q T (mkF m pc Ls (.int y :: .int x :: st)) := step (fun _ h => by subst hq; exact XS.iand X.here hx rfl hd rfl h) k
theorem ior (X : Stand p l e R s m args below meth c T locs cells slots) (hx : p.tables.exec = Jvm.exec) {x y : Int32} (hd : decode c.code pc = .ok (.ior, 1)) (hq : pc + 1 = q) (k : Ends p l e R s m args below meth c C S Q T (mkF m q Ls (.int (x ||| y) :: st))) : Ends p l e R s m args below meth c C S Q T (mkF m pc Ls (.int y :: .int x :: st)) := step (fun _ h => by subst hq; exact XS.ior X.here hx rfl hd rfl h) k
theorem ixor (X : Stand p l e R s m args below meth c T locs cells slots) (hx : p.tables.exec = Jvm.exec) {x y : Int32} (hd : decode c.code pc = .ok (.ixor, 1)) (hq : pc + 1 = q) (k : Ends p l e R s m args below meth c C S Q T (mkF m q Ls (.int (x ^^^ y) :: st))) : Ends p l e R s m args below meth c C S Q T (mkF m pc Ls (.int y :: .int x :: st)) := step (fun _ h => by subst hq; exact XS.ixor X.here hx rfl hd rfl h) k
theorem ineg (X : Stand p l e R s m args below meth c T locs cells slots) (hx : p.tables.exec = Jvm.exec) {x : Int32} (hd : decode c.code pc = .ok (.ineg, 1)) (hq : pc + 1 = q) (k : Ends p l e R s m args below meth c C S Q T (mkF m q Ls (.int (-x) :: st))) : Ends p l e R s m args below meth c C S Q T (mkF m pc Ls (.int x :: st)) := step (fun _ h => by subst hq; exact XS.ineg X.here hx rfl hd rfl h) k
theorem idiv (X : Stand p l e R s m args below meth c T locs cells slots) (hx : p.tables.exec = Jvm.exec) {x y : Int32} (hy : y ≠ 0) (hd : decode c.code pc = .ok (.idiv, 1)) (hq : pc + 1 = q) (k : Ends p l e R s m args below meth c C S Q T (mkF m q Ls (.int (x / y) :: st))) : Ends p l e R s m args below meth c C S Q T (mkF m pc Ls (.int y :: .int x :: st)) := step (fun _ h => by subst hq; exact XS.idiv X.here hx rfl hd rfl hy h) k
theorem ladd (X : Stand p l e R s m args below meth c T locs cells slots) (hx : p.tables.exec = Jvm.exec) {x y : Int64} (hd : decode c.code pc = .ok (.ladd, 1)) (hq : pc + 1 = q) (k : Ends p l e R s m args below meth c C S Q T (mkF m q Ls (.long (x + y) :: st))) : Ends p l e R s m args below meth c C S Q T (mkF m pc Ls (.long y :: .long x :: st)) := step (fun _ h => by subst hq; exact XS.ladd X.here hx rfl hd rfl h) k
theorem lsub (X : Stand p l e R s m args below meth c T locs cells slots) (hx : p.tables.exec = Jvm.exec) {x y : Int64} (hd : decode c.code pc = .ok (.lsub, 1)) (hq : pc + 1 = q) (k : Ends p l e R s m args below meth c C S Q T (mkF m q Ls (.long (x - y) :: st))) : Ends p l e R s m args below meth c C S Q T (mkF m pc Ls (.long y :: .long x :: st)) := step (fun _ h => by subst hq; exact XS.lsub X.here hx rfl hd rfl h) k
theorem lmul (X : Stand p l e R s m args below meth c T locs cells slots) (hx : p.tables.exec = Jvm.exec) {x y : Int64} (hd : decode c.code pc = .ok (.lmul, 1)) (hq : pc + 1 = q) (k : Ends p l e R s m args below meth c C S Q T (mkF m q Ls (.long (x * y) :: st))) : Ends p l e R s m args below meth c C S Q T (mkF m pc Ls (.long y :: .long x :: st)) := step (fun _ h => by subst hq; exact XS.lmul X.here hx rfl hd rfl h) k
theorem land (X : Stand p l e R s m args below meth c T locs cells slots) (hx : p.tables.exec = Jvm.exec) {x y : Int64} (hd : decode c.code pc = .ok (.land, 1)) (hq : pc + 1 = q) (k : Ends p l e R s m args below meth c C S Q T (mkF m q Ls (.long (x &&& y) :: st))) : Ends p l e R s m args below meth c C S Q T (mkF m pc Ls (.long y :: .long x :: st)) := step (fun _ h => by subst hq; exact XS.land X.here hx rfl hd rfl h) k
theorem lor (X : Stand p l e R s m args below meth c T locs cells slots) (hx : p.tables.exec = Jvm.exec) {x y : Int64} (hd : decode c.code pc = .ok (.lor, 1)) (hq : pc + 1 = q) (k : Ends p l e R s m args below meth c C S Q T (mkF m q Ls (.long (x ||| y) :: st))) : Ends p l e R s m args below meth c C S Q T (mkF m pc Ls (.long y :: .long x :: st)) := step (fun _ h => by subst hq; exact XS.lor X.here hx rfl hd rfl h) k
theorem lxor (X : Stand p l e R s m args below meth c T locs cells slots) (hx : p.tables.exec = Jvm.exec) {x y : Int64} (hd : decode c.code pc = .ok (.lxor, 1)) (hq : pc + 1 = q) (k : Ends p l e R s m args below meth c C S Q T (mkF m q Ls (.long (x ^^^ y) :: st))) : Ends p l e R s m args below meth c C S Q T (mkF m pc Ls (.long y :: .long x :: st)) := step (fun _ h => by subst hq; exact XS.lxor X.here hx rfl hd rfl h) k
theorem lneg (X : Stand p l e R s m args below meth c T locs cells slots) (hx : p.tables.exec = Jvm.exec) {x : Int64} (hd : decode c.code pc = .ok (.lneg, 1)) (hq : pc + 1 = q) (k : Ends p l e R s m args below meth c C S Q T (mkF m q Ls (.long (-x) :: st))) : Ends p l e R s m args below meth c C S Q T (mkF m pc Ls (.long x :: st)) := step (fun _ h => by subst hq; exact XS.lneg X.here hx rfl hd rfl h) k
theorem ldiv (X : Stand p l e R s m args below meth c T locs cells slots) (hx : p.tables.exec = Jvm.exec) {x y : Int64} (hy : y ≠ 0) (hd : decode c.code pc = .ok (.ldiv, 1)) (hq : pc + 1 = q) (k : Ends p l e R s m args below meth c C S Q T (mkF m q Ls (.long (x / y) :: st))) : Ends p l e R s m args below meth c C S Q T (mkF m pc Ls (.long y :: .long x :: st)) := step (fun _ h => by subst hq; exact XS.ldiv X.here hx rfl hd rfl hy h) k
theorem irem (X : Stand p l e R s m args below meth c T locs cells slots) (hx : p.tables.exec = Jvm.exec) {x y : Int32} (hy : y ≠ 0) (hd : decode c.code pc = .ok (.irem, 1)) (hq : pc + 1 = q) (k : Ends p l e R s m args below meth c C S Q T (mkF m q Ls (.int (x % y) :: st))) : Ends p l e R s m args below meth c C S Q T (mkF m pc Ls (.int y :: .int x :: st)) := step (fun _ h => by subst hq; exact iremM X hx rfl hd rfl hy h) k
theorem lrem (X : Stand p l e R s m args below meth c T locs cells slots) (hx : p.tables.exec = Jvm.exec) {x y : Int64} (hy : y ≠ 0) (hd : decode c.code pc = .ok (.lrem, 1)) (hq : pc + 1 = q) (k : Ends p l e R s m args below meth c C S Q T (mkF m q Ls (.long (x % y) :: st))) : Ends p l e R s m args below meth c C S Q T (mkF m pc Ls (.long y :: .long x :: st)) := step (fun _ h => by subst hq; exact XS.lrem X.here hx rfl hd rfl hy (by rw [lrem_mod]; exact h)) k
theorem ishl (X : Stand p l e R s m args below meth c T locs cells slots) (hx : p.tables.exec = Jvm.exec) {x : Int32} {y : Int32} (hd : decode c.code pc = .ok (.ishl, 1)) (hq : pc + 1 = q) (k : Ends p l e R s m args below meth c C S Q T (mkF m q Ls (.int (x <<< (y &&& 31)) :: st))) : Ends p l e R s m args below meth c C S Q T (mkF m pc Ls (.int y :: .int x :: st)) := step (fun _ h => by subst hq; exact XS.ishl X.here hx rfl hd rfl h) k
theorem ishr (X : Stand p l e R s m args below meth c T locs cells slots) (hx : p.tables.exec = Jvm.exec) {x : Int32} {y : Int32} (hd : decode c.code pc = .ok (.ishr, 1)) (hq : pc + 1 = q) (k : Ends p l e R s m args below meth c C S Q T (mkF m q Ls (.int (x >>> (y &&& 31)) :: st))) : Ends p l e R s m args below meth c C S Q T (mkF m pc Ls (.int y :: .int x :: st)) := step (fun _ h => by subst hq; exact XS.ishr X.here hx rfl hd rfl h) k
theorem iushr (X : Stand p l e R s m args below meth c T locs cells slots) (hx : p.tables.exec = Jvm.exec) {x : Int32} {y : Int32} (hd : decode c.code pc = .ok (.iushr, 1)) (hq : pc + 1 = q) (k : Ends p l e R s m args below meth c C S Q T (mkF m q Ls (.int ((x.toUInt32 >>> (y &&& 31).toUInt32).toInt32) :: st))) : Ends p l e R s m args below meth c C S Q T (mkF m pc Ls (.int y :: .int x :: st)) := step (fun _ h => by subst hq; exact XS.iushr X.here hx rfl hd rfl h) k
theorem lshl (X : Stand p l e R s m args below meth c T locs cells slots) (hx : p.tables.exec = Jvm.exec) {x : Int64} {y : Int32} (hd : decode c.code pc = .ok (.lshl, 1)) (hq : pc + 1 = q) (k : Ends p l e R s m args below meth c C S Q T (mkF m q Ls (.long (x <<< (y &&& 0x3f).toInt64) :: st))) : Ends p l e R s m args below meth c C S Q T (mkF m pc Ls (.int y :: .long x :: st)) := step (fun _ h => by subst hq; exact XS.lshl X.here hx rfl hd rfl h) k
theorem lshr (X : Stand p l e R s m args below meth c T locs cells slots) (hx : p.tables.exec = Jvm.exec) {x : Int64} {y : Int32} (hd : decode c.code pc = .ok (.lshr, 1)) (hq : pc + 1 = q) (k : Ends p l e R s m args below meth c C S Q T (mkF m q Ls (.long (x >>> (y &&& 0x3f).toInt64) :: st))) : Ends p l e R s m args below meth c C S Q T (mkF m pc Ls (.int y :: .long x :: st)) := step (fun _ h => by subst hq; exact XS.lshr X.here hx rfl hd rfl h) k
theorem lushr (X : Stand p l e R s m args below meth c T locs cells slots) (hx : p.tables.exec = Jvm.exec) {x : Int64} {y : Int32} (hd : decode c.code pc = .ok (.lushr, 1)) (hq : pc + 1 = q) (k : Ends p l e R s m args below meth c C S Q T (mkF m q Ls (.long ((x.toUInt64 >>> (y &&& 0x3f).toInt64.toUInt64).toInt64) :: st))) : Ends p l e R s m args below meth c C S Q T (mkF m pc Ls (.int y :: .long x :: st)) := step (fun _ h => by subst hq; exact XS.lushr X.here hx rfl hd rfl h) k
theorem i2l (X : Stand p l e R s m args below meth c T locs cells slots) (hx : p.tables.exec = Jvm.exec) {x : Int32} (hd : decode c.code pc = .ok (.i2l, 1)) (hq : pc + 1 = q) (k : Ends p l e R s m args below meth c C S Q T (mkF m q Ls (.long (x.toInt64) :: st))) : Ends p l e R s m args below meth c C S Q T (mkF m pc Ls (.int x :: st)) := step (fun _ h => by subst hq; exact XS.i2l X.here hx rfl hd rfl h) k
theorem l2i (X : Stand p l e R s m args below meth c T locs cells slots) (hx : p.tables.exec = Jvm.exec) {x : Int64} (hd : decode c.code pc = .ok (.l2i, 1)) (hq : pc + 1 = q) (k : Ends p l e R s m args below meth c C S Q T (mkF m q Ls (.int (x.toInt32) :: st))) : Ends p l e R s m args below meth c C S Q T (mkF m pc Ls (.long x :: st)) := step (fun _ h => by subst hq; exact XS.l2i X.here hx rfl hd rfl h) k
theorem i2b (X : Stand p l e R s m args below meth c T locs cells slots) (hx : p.tables.exec = Jvm.exec) {x : Int32} (hd : decode c.code pc = .ok (.i2b, 1)) (hq : pc + 1 = q) (k : Ends p l e R s m args below meth c C S Q T (mkF m q Ls (.int (x.toInt8.toInt32) :: st))) : Ends p l e R s m args below meth c C S Q T (mkF m pc Ls (.int x :: st)) := step (fun _ h => by subst hq; exact XS.i2b X.here hx rfl hd rfl h) k
theorem i2s (X : Stand p l e R s m args below meth c T locs cells slots) (hx : p.tables.exec = Jvm.exec) {x : Int32} (hd : decode c.code pc = .ok (.i2s, 1)) (hq : pc + 1 = q) (k : Ends p l e R s m args below meth c C S Q T (mkF m q Ls (.int (x.toInt16.toInt32) :: st))) : Ends p l e R s m args below meth c C S Q T (mkF m pc Ls (.int x :: st)) := step (fun _ h => by subst hq; exact XS.i2s X.here hx rfl hd rfl h) k
theorem i2c (X : Stand p l e R s m args below meth c T locs cells slots) (hx : p.tables.exec = Jvm.exec) {x : Int32} (hd : decode c.code pc = .ok (.i2c, 1)) (hq : pc + 1 = q) (k : Ends p l e R s m args below meth c C S Q T (mkF m q Ls (.int (x.toUInt32.toUInt16.toUInt32.toInt32) :: st))) : Ends p l e R s m args below meth c C S Q T (mkF m pc Ls (.int x :: st)) := step (fun _ h => by subst hq; exact XS.i2c X.here hx rfl hd rfl h) k
theorem lcmp (X : Stand p l e R s m args below meth c T locs cells slots) (hx : p.tables.exec = Jvm.exec) {x y : Int64} (hd : decode c.code pc = .ok (.lcmp, 1)) (hq : pc + 1 = q) (k : Ends p l e R s m args below meth c C S Q T (mkF m q Ls (.int (lcmpW x y) :: st))) : Ends p l e R s m args below meth c C S Q T (mkF m pc Ls (.long y :: .long x :: st)) := step (fun _ h => by subst hq; exact XS.lcmp X.here hx rfl hd rfl h) k
theorem dup (X : Stand p l e R s m args below meth c T locs cells slots) (hx : p.tables.exec = Jvm.exec) {v : Value} (hc : v.category = 1) (hd : decode c.code pc = .ok (.dup, 1)) (hq : pc + 1 = q) (k : Ends p l e R s m args below meth c C S Q T (mkF m q Ls (v :: v :: st))) : Ends p l e R s m args below meth c C S Q T (mkF m pc Ls (v :: st)) := step (fun _ h => by subst hq; exact XS.dup X.here hx rfl hd rfl hc h) k
theorem pop (X : Stand p l e R s m args below meth c T locs cells slots) (hx : p.tables.exec = Jvm.exec) {v : Value} (hc : v.category = 1) (hd : decode c.code pc = .ok (.pop, 1)) (hq : pc + 1 = q) (k : Ends p l e R s m args below meth c C S Q T (mkF m q Ls (st))) : Ends p l e R s m args below meth c C S Q T (mkF m pc Ls (v :: st)) := step (fun _ h => by subst hq; exact XS.pop X.here hx rfl hd rfl hc h) k
theorem iinc (X : Stand p l e R s m args below meth c T locs cells slots) (hx : p.tables.exec = Jvm.exec) {k0 : Nat} {cst : Int} {x v : Int32} {l' : Array Slot} (hl : Ls[k0]? = some (.val (.int x))) (hv : x + Int32.ofInt cst = v) (hl' : storeLocals Ls k0 (.int v) = some l') (hd : decode c.code pc = .ok (.iinc k0 cst, 3)) (hq : pc + 3 = q) (k : Ends p l e R s m args below meth c C S Q T (mkF m q l' (st))) : Ends p l e R s m args below meth c C S Q T (mkF m pc Ls (st)) := step (fun _ h => by subst hq; exact XS.iinc X.here hx rfl hd hl (by rw [hv]; exact hl') h) k
theorem goto (X : Stand p l e R s m args below meth c T locs cells slots) (hx : p.tables.exec = Jvm.exec) {o : Int}  (hd : decode c.code pc = .ok (.goto o, 3)) (ho : 0 ≤ (pc : Int) + o) (hq : ((pc : Int) + o).toNat = q) (k : Ends p l e R s m args below meth c C S Q T (mkF m q Ls (st))) : Ends p l e R s m args below meth c C S Q T (mkF m pc Ls (st)) := step (fun _ h => XS.goto X.here hx rfl rfl hd ho hq h) k
theorem ifYes (X : Stand p l e R s m args below meth c T locs cells slots) (hx : p.tables.exec = Jvm.exec) {o : Int} {cd : ClassFile.Cond} {x : Int32} (hc : ifCond.holds cd x = true) (hd : decode c.code pc = .ok (.ifCond cd o, 3)) (ho : 0 ≤ (pc : Int) + o) (hq : ((pc : Int) + o).toNat = q) (k : Ends p l e R s m args below meth c C S Q T (mkF m q Ls (st))) : Ends p l e R s m args below meth c C S Q T (mkF m pc Ls (.int x :: st)) := step (fun _ h => XS.ifYes X.here hx rfl rfl hd rfl hc ho hq h) k
theorem icmpYes (X : Stand p l e R s m args below meth c T locs cells slots) (hx : p.tables.exec = Jvm.exec) {o : Int} {cd : ClassFile.Cond} {x y : Int32} (hc : if_icmp.holds cd x y = true) (hd : decode c.code pc = .ok (.if_icmp cd o, 3)) (ho : 0 ≤ (pc : Int) + o) (hq : ((pc : Int) + o).toNat = q) (k : Ends p l e R s m args below meth c C S Q T (mkF m q Ls (st))) : Ends p l e R s m args below meth c C S Q T (mkF m pc Ls (.int y :: .int x :: st)) := step (fun _ h => XS.icmpYes X.here hx rfl rfl hd rfl hc ho hq h) k
theorem ifnullYes (X : Stand p l e R s m args below meth c T locs cells slots) (hx : p.tables.exec = Jvm.exec) {o : Int}  (hd : decode c.code pc = .ok (.ifnull o, 3)) (ho : 0 ≤ (pc : Int) + o) (hq : ((pc : Int) + o).toNat = q) (k : Ends p l e R s m args below meth c C S Q T (mkF m q Ls (st))) : Ends p l e R s m args below meth c C S Q T (mkF m pc Ls (.null :: st)) := step (fun _ h => XS.ifnullYes X.here hx rfl rfl hd rfl ho hq h) k
theorem ifnonnullYes (X : Stand p l e R s m args below meth c T locs cells slots) (hx : p.tables.exec = Jvm.exec) {o : Int} {b : Addr} (hd : decode c.code pc = .ok (.ifnonnull o, 3)) (ho : 0 ≤ (pc : Int) + o) (hq : ((pc : Int) + o).toNat = q) (k : Ends p l e R s m args below meth c C S Q T (mkF m q Ls (st))) : Ends p l e R s m args below meth c C S Q T (mkF m pc Ls (.ref b :: st)) := step (fun _ h => XS.ifnonnullYes X.here hx rfl rfl hd rfl ho hq h) k
theorem ifNo (X : Stand p l e R s m args below meth c T locs cells slots) (hx : p.tables.exec = Jvm.exec) {o : Int} {cd : ClassFile.Cond} {x : Int32} (hc : ifCond.holds cd x = false) (hd : decode c.code pc = .ok (.ifCond cd o, 3)) (hq : pc + 3 = q) (k : Ends p l e R s m args below meth c C S Q T (mkF m q Ls (st))) : Ends p l e R s m args below meth c C S Q T (mkF m pc Ls (.int x :: st)) := step (fun _ h => by subst hq; exact XS.ifNo X.here hx rfl hd rfl hc h) k
theorem icmpNo (X : Stand p l e R s m args below meth c T locs cells slots) (hx : p.tables.exec = Jvm.exec) {o : Int} {cd : ClassFile.Cond} {x y : Int32} (hc : if_icmp.holds cd x y = false) (hd : decode c.code pc = .ok (.if_icmp cd o, 3)) (hq : pc + 3 = q) (k : Ends p l e R s m args below meth c C S Q T (mkF m q Ls (st))) : Ends p l e R s m args below meth c C S Q T (mkF m pc Ls (.int y :: .int x :: st)) := step (fun _ h => by subst hq; exact XS.icmpNo X.here hx rfl hd rfl hc h) k
theorem ifnullNo (X : Stand p l e R s m args below meth c T locs cells slots) (hx : p.tables.exec = Jvm.exec) {o : Int} {b : Addr} (hd : decode c.code pc = .ok (.ifnull o, 3)) (hq : pc + 3 = q) (k : Ends p l e R s m args below meth c C S Q T (mkF m q Ls (st))) : Ends p l e R s m args below meth c C S Q T (mkF m pc Ls (.ref b :: st)) := step (fun _ h => by subst hq; exact XS.ifnullNo X.here hx rfl hd rfl h) k
theorem ifnonnullNo (X : Stand p l e R s m args below meth c T locs cells slots) (hx : p.tables.exec = Jvm.exec) {o : Int} (hd : decode c.code pc = .ok (.ifnonnull o, 3)) (hq : pc + 3 = q) (k : Ends p l e R s m args below meth c C S Q T (mkF m q Ls (st))) : Ends p l e R s m args below meth c C S Q T (mkF m pc Ls (.null :: st)) := step (fun _ h => by subst hq; exact XS.ifnonnullNo X.here hx rfl hd rfl h) k
theorem acmp (X : Stand p l e R s m args below meth c T locs cells slots) (hx : p.tables.exec = Jvm.exec) {o : Int} {cd : ACond} {x y : Value} (h1 : x.isRef = true) (h2 : y.isRef = true) {same : Bool} (hs : decide (x = y) = same) (hd : decode c.code pc = .ok (.if_acmp cd o, 3)) (ho : 0 ≤ (pc : Int) + o) (hq : q = if acV cd same = true then ((pc : Int) + o).toNat else pc + 3) (k : Ends p l e R s m args below meth c C S Q T (mkF m q Ls st)) : Ends p l e R s m args below meth c C S Q T (mkF m pc Ls (y :: x :: st)) := step (fun _ h => Jvm.RoadKit.acmp X hx rfl h1 h2 rfl hd rfl hs ho hq h) k
theorem dloadN (X : Stand p l e R s m args below meth c T locs cells slots) (hx : p.tables.exec = Jvm.exec) {k0 : Fin 4} {v : UInt64} (hl : Ls[k0.val]? = some (.val (.double v))) (hd : decode c.code pc = .ok (.dload_n k0, 1)) (hq : pc + 1 = q) (k : Ends p l e R s m args below meth c C S Q T (mkF m q Ls (.double v :: st))) : Ends p l e R s m args below meth c C S Q T (mkF m pc Ls (st)) := step (fun _ h => by subst hq; exact XS.dloadN X.here hx rfl hd hl h) k
theorem dload (X : Stand p l e R s m args below meth c T locs cells slots) (hx : p.tables.exec = Jvm.exec) {k0 : Nat} {v : UInt64} (hl : Ls[k0]? = some (.val (.double v))) (hd : decode c.code pc = .ok (.dload k0, 2)) (hq : pc + 2 = q) (k : Ends p l e R s m args below meth c C S Q T (mkF m q Ls (.double v :: st))) : Ends p l e R s m args below meth c C S Q T (mkF m pc Ls (st)) := step (fun _ h => by subst hq; exact XS.dload X.here hx rfl hd hl h) k
theorem dstoreN (X : Stand p l e R s m args below meth c T locs cells slots) (hx : p.tables.exec = Jvm.exec) {k0 : Fin 4} {v : UInt64} {l' : Array Slot} (hl : storeLocals Ls k0.val (.double v) = some l') (hd : decode c.code pc = .ok (.dstore_n k0, 1)) (hq : pc + 1 = q) (k : Ends p l e R s m args below meth c C S Q T (mkF m q l' (st))) : Ends p l e R s m args below meth c C S Q T (mkF m pc Ls (.double v :: st)) := step (fun _ h => by subst hq; exact XS.dstoreN X.here hx rfl hd rfl hl h) k
theorem dstore (X : Stand p l e R s m args below meth c T locs cells slots) (hx : p.tables.exec = Jvm.exec) {k0 : Nat} {v : UInt64} {l' : Array Slot} (hl : storeLocals Ls k0 (.double v) = some l') (hd : decode c.code pc = .ok (.dstore k0, 2)) (hq : pc + 2 = q) (k : Ends p l e R s m args below meth c C S Q T (mkF m q l' (st))) : Ends p l e R s m args below meth c C S Q T (mkF m pc Ls (.double v :: st)) := step (fun _ h => by subst hq; exact XS.dstore X.here hx rfl hd rfl hl h) k
theorem i2d (X : Stand p l e R s m args below meth c T locs cells slots) (hx : p.tables.exec = Jvm.exec) {x : Int32} (hd : decode c.code pc = .ok (.i2d, 1)) (hq : pc + 1 = q) (k : Ends p l e R s m args below meth c C S Q T (mkF m q Ls (.double (FP.i2d x) :: st))) : Ends p l e R s m args below meth c C S Q T (mkF m pc Ls (.int x :: st)) := step (fun _ h => by subst hq; exact XS.i2dS X.here hx rfl hd rfl rfl h) k
theorem b53_i (x : Int32) : B53 x.toInt64 := by
  have h := rng32 x
  unfold B53; rw [c_i2l]
  exact ⟨Int.lt_of_lt_of_le (by decide) h.1, Int.lt_trans h.2 (by decide)⟩
theorem dcmp_i (x y : Int32) (o : CmpOp) : cmpValue (FP.dcmp (FP.i2d x) (FP.i2d y)) o = lcmpW x.toInt64 y.toInt64 := by
  rw [i2d_w, i2d_w]; exact dcmpV_w (b53_i x) (b53_i y) o
theorem dcmpI (X : Stand p l e R s m args below meth c T locs cells slots) (hx : p.tables.exec = Jvm.exec) {o : CmpOp} {x y : Int32} (hd : decode c.code pc = .ok (.dcmp o, 1)) (hq : pc + 1 = q) (k : Ends p l e R s m args below meth c C S Q T (mkF m q Ls (.int (lcmpW x.toInt64 y.toInt64) :: st))) : Ends p l e R s m args below meth c C S Q T (mkF m pc Ls (.double (FP.i2d y) :: .double (FP.i2d x) :: st)) := step (fun _ h => by subst hq; exact XS.dcmpS X.here hx rfl hd rfl (dcmp_i x y o) h) k
theorem ldc2Long (X : Stand p l e R s m args below meth c T locs cells slots) (hx : p.tables.exec = Jvm.exec) {Z : State} {a0 : Array Value} (hZ : Z.Warmed39 s.vm) {own : String} (hown : s.vm.findClass own = some m.cls) {index : Nat} {v : Int64} (w : (Jvm.Cond.constantLong own index v).before a0 Z = true) (hd : decode c.code pc = .ok (.ldc2_w index, 3)) (hq : pc + 3 = q) (k : Ends p l e R s m args below meth c C S Q T (mkF m q Ls (.long v :: st))) : Ends p l e R s m args below meth c C S Q T (mkF m pc Ls st) := step (fun t h => by subst hq; exact X.ldc2Long hx hown (mvT hZ w) (g := mkF m pc Ls st) rfl hd t h) k
theorem ldcInt (X : Stand p l e R s m args below meth c T locs cells slots) (hx : p.tables.exec = Jvm.exec) {Z : State} {a0 : Array Value} (hZ : Z.Warmed39 s.vm) {own : String} (hown : s.vm.findClass own = some m.cls) {index : Nat} {v : Int32} (w : (Jvm.Cond.constant own index v).before a0 Z = true) (hd : decode c.code pc = .ok (.ldc index, 2)) (hq : pc + 2 = q) (k : Ends p l e R s m args below meth c C S Q T (mkF m q Ls (.int v :: st))) : Ends p l e R s m args below meth c C S Q T (mkF m pc Ls st) := step (fun t h => by subst hq; exact X.ldcInt hx hown (mvT hZ w) (g := mkF m pc Ls st) rfl hd t h) k
theorem retZ (X : Stand p l e R s m args below meth c T locs cells slots) (hx : p.tables.exec = Jvm.exec) {z : Int32} {t : FieldType} (hret : meth.sig.returnType = some t) (ht : t = .boolean ∨ t = .byte ∨ t = .char ∨ t = .short) (hd : decode c.code pc = .ok (.ireturn, 1)) (hQ : Q (some (.int (nar t z))) T.heap locs) (hc : cells ≤ C) (hs : slots ≤ S) : Ends p l e R s m args below meth c C S Q T (mkF m pc Ls (.int z :: st)) :=
  ⟨T, locs, cells, slots, _, X, hQ, hc, hs, (fun h => by rw [hret] at h; cases h), fun fs hl => retN X hx hret ht hd hl⟩
theorem retG (X : Stand p l e R s m args below meth c T locs cells slots) (hx : p.tables.exec = Jvm.exec) {w : Value} {t : FieldType} {i : Instr} (hret : meth.sig.returnType = some t) (hn : narrow t w = w)
    (hi : (i = .ireturn ∧ (t = .int ∨ t = .boolean ∨ t = .byte ∨ t = .char ∨ t = .short) ∧ ∃ z, w = .int z) ∨ (i = .lreturn ∧ t = .long ∧ ∃ z, w = .long z) ∨ (i = .dreturn ∧ t = .double ∧ ∃ z, w = .double z) ∨ (i = .freturn ∧ t = .float ∧ ∃ z, w = .float z) ∨ (i = .areturn ∧ t.isReference = true ∧ w.isRef = true)) (hd : decode c.code pc = .ok (i, 1)) (hQ : Q (some w) T.heap locs) (hc : cells ≤ C) (hs : slots ≤ S) : Ends p l e R s m args below meth c C S Q T (mkF m pc Ls (w :: st)) :=
  ⟨T, locs, cells, slots, _, X, hQ, hc, hs, (fun h => by rw [hret] at h; cases h), fun fs hl => retOut X hx hret hn hi hd hl⟩
theorem retI (X : Stand p l e R s m args below meth c T locs cells slots) (hx : p.tables.exec = Jvm.exec) {z : Int32} (hret : meth.sig.returnType = some .int) (hd : decode c.code pc = .ok (.ireturn, 1)) (hQ : Q (some (.int z)) T.heap locs) (hc : cells ≤ C) (hs : slots ≤ S) : Ends p l e R s m args below meth c C S Q T (mkF m pc Ls (.int z :: st)) := retG X hx hret rfl (Or.inl ⟨rfl, Or.inl rfl, z, rfl⟩) hd hQ hc hs
theorem retL (X : Stand p l e R s m args below meth c T locs cells slots) (hx : p.tables.exec = Jvm.exec) {z : Int64} (hret : meth.sig.returnType = some .long) (hd : decode c.code pc = .ok (.lreturn, 1)) (hQ : Q (some (.long z)) T.heap locs) (hc : cells ≤ C) (hs : slots ≤ S) : Ends p l e R s m args below meth c C S Q T (mkF m pc Ls (.long z :: st)) := retG X hx hret rfl (Or.inr (Or.inl ⟨rfl, rfl, z, rfl⟩)) hd hQ hc hs
theorem retA (X : Stand p l e R s m args below meth c T locs cells slots) (hx : p.tables.exec = Jvm.exec) {v : Value} {t : FieldType} (hret : meth.sig.returnType = some t) (ht : t.isReference = true) (hv : v.isRef = true) (hn : narrow t v = v) (hd : decode c.code pc = .ok (.areturn, 1)) (hQ : Q (some v) T.heap locs) (hc : cells ≤ C) (hs : slots ≤ S) : Ends p l e R s m args below meth c C S Q T (mkF m pc Ls (v :: st)) := retG X hx hret hn (Or.inr (Or.inr (Or.inr (Or.inr ⟨rfl, ht, hv⟩)))) hd hQ hc hs
theorem retV (X : Stand p l e R s m args below meth c T locs cells slots) (hx : p.tables.exec = Jvm.exec) (hret : meth.sig.returnType = none) (hd : decode c.code pc = .ok (.return_, 1)) (hQ : Q none T.heap locs) (hc : cells ≤ C) (hs : slots ≤ S) : Ends p l e R s m args below meth c C S Q T (mkF m pc Ls []) :=
  ⟨T, locs, cells, slots, none, X, hQ, hc, hs, (fun _ => rfl), fun fs hl => X.returnOut hx hret hd hl⟩
theorem callS (X : Stand p l e R s m args below meth c T locs cells slots) (hx : p.tables.exec = Jvm.exec) {Z : State} {a0 : Array Value} (hZ : Z.Warmed39 s.vm) {own : String} (hown : s.vm.findClass own = some m.cls) {index : Nat} {h : Heap} (eT : T.heap = h) {y : MethodName} {bytes : ByteArray} {maxL : Nat} {ret : Option FieldType} {rm : Room} {Qc : Option Value → Heap → List Loc → Prop} (w1 : (Jvm.Cond.methodLink own index y).before a0 Z = true) (w2 : (Jvm.Cond.static y).before a0 Z = true) (w3 : (Jvm.Cond.initialized y.cls).before a0 Z = true) (w4 : (Jvm.Cond.code y bytes maxL ret).before a0 Z = true) (hy : y.cls ≠ "java/lang/invoke/MethodHandle" ∧ y.cls ≠ "java/lang/invoke/VarHandle")
    {argsL : List Value} (hM : Pays l Z y bytes maxL ret [] rm argsL.toArray h Qc) (hsize : Ls.size = c.maxLocals) {ps : List FieldType} {rt : Option FieldType} (hsig : parseMethodDescriptor y.desc = some ⟨ps, rt⟩) (hlen : argsL.length = ps.length) {W : Nat} (hW : (rest.map fun v => v.category).sum ≤ W) (hf : rm.frames + 1 ≤ R.frames) (hl : W + (maxL + 11) + rm.locals ≤ R.locals) (hcc : cells + rm.cells ≤ R.cells) (hss : slots + rm.slots ≤ R.slots) (hst : st = argsL.reverse ++ rest) (hd : decode c.code pc = .ok (.invokestatic index, 3)) (hq : pc + 3 = q) (k : ∀ (T' : State) (v : Option Value) (L : List Loc), Stand p l e R s m args below meth c T' (locs ++ L) (cells + rm.cells) (slots + rm.slots) → Qc v T'.heap L → Ends p l e R s m args below meth c C S Q T' (mkF m q Ls (v.toList ++ rest))) : Ends p l e R s m args below meth c C S Q T (mkF m pc Ls st) := by
  obtain ⟨v, _, ⟨T', L', k', n'⟩, -, X', ⟨L, hQ, l1, y1, z1⟩, stp⟩ := Jvm.LawKit.callS X hx (y := y) hown (mvT hZ w1) (mvT hZ w2) (mvT hZ w3) (mvT hZ w4) hy (backOf (W := W) hM hZ w4 w3 hf hl) (g := mkF m pc Ls st) rfl hsize (argsL := argsL) (rest := rest) (lenOf hsig hlen) hst (by show 2 * 0 + _ ≤ _; omega) hd (fun _ _ => ⟨rfl, eT, hcc, hss⟩)
  dsimp only [Pt.U, Pt.locs, Pt.cells, Pt.slots] at X' l1 y1 z1 stp hQ
  subst l1 y1 z1 hq
  exact step stp (k T' v L X' hQ)
theorem callI (X : Stand p l e R s m args below meth c T locs cells slots) (hx : p.tables.exec = Jvm.exec) {Z : State} {a0 : Array Value} (hZ : Z.Warmed39 s.vm) {own : String} (hown : s.vm.findClass own = some m.cls) {index : Nat} {h : Heap} (eT : T.heap = h) {y : MethodName} {bytes : ByteArray} {maxL : Nat} {rm : Room} {Qc : Option Value → Heap → List Loc → Prop} (hy1 : y.name = "<init>") (w1 : (Jvm.Cond.methodLink own index y).before a0 Z = true) (w2 : (Jvm.Cond.instanceMethod y).before a0 Z = true) (w3 : (Jvm.Cond.initialized y.cls).before a0 Z = true) (w4 : (Jvm.Cond.code y bytes maxL none).before a0 Z = true) (hy : y.cls ≠ "java/lang/invoke/MethodHandle" ∧ y.cls ≠ "java/lang/invoke/VarHandle")
    {a : Addr} {argsL : List Value} (hM : Pays l Z y bytes maxL none [] rm (Value.ref a :: argsL).toArray h Qc) (hsize : Ls.size = c.maxLocals) {ps : List FieldType} {rt : Option FieldType} (hsig : parseMethodDescriptor y.desc = some ⟨ps, rt⟩) (hlen : argsL.length = ps.length) {W : Nat} (hW : (rest.map fun v => v.category).sum ≤ W) (hf : rm.frames + 1 ≤ R.frames) (hl : W + (maxL + 11) + rm.locals ≤ R.locals) (hcc : cells + rm.cells ≤ R.cells) (hss : slots + rm.slots ≤ R.slots) (hst : st = argsL.reverse ++ .ref a :: rest) (hd : decode c.code pc = .ok (.invokespecial index, 3)) (hq : pc + 3 = q) (k : ∀ (T' : State) (v : Option Value) (L : List Loc), Stand p l e R s m args below meth c T' (locs ++ L) (cells + rm.cells) (slots + rm.slots) → Qc v T'.heap L → Ends p l e R s m args below meth c C S Q T' (mkF m q Ls (v.toList ++ rest))) : Ends p l e R s m args below meth c C S Q T (mkF m pc Ls st) := by
  obtain ⟨v, _, ⟨T', L', k', n'⟩, -, X', ⟨L, hQ, l1, y1, z1⟩, stp⟩ := X.specialBack hx (y := y) hy1 hown (mvT hZ w1) (mvT hZ w2) (mvT hZ w4) hy (backOf (W := W) hM hZ w4 w3 hf hl) (g := mkF m pc Ls st) rfl hsize (Steps.refl _) (a := a) (argsL := argsL) (rest := rest) (lenOf hsig hlen) hst (by show 2 * 0 + _ ≤ _; omega) hd (fun _ _ => ⟨rfl, eT, hcc, hss⟩)
  dsimp only [Pt.U, Pt.locs, Pt.cells, Pt.slots] at X' l1 y1 z1 stp hQ
  subst l1 y1 z1 hq
  exact step (fun _ h => stp.trans h) (k T' v L X' hQ)
theorem callV (X : Stand p l e R s m args below meth c T locs cells slots) (hx : p.tables.exec = Jvm.exec) {Z : State} {a0 : Array Value} (hZ : Z.Warmed39 s.vm) {own : String} (hown : s.vm.findClass own = some m.cls) {index : Nat} {h : Heap} (eT : T.heap = h) {y z : MethodName} {K : String} {bytes : ByteArray} {maxL : Nat} {ret : Option FieldType} {rm : Room} {Qc : Option Value → Heap → List Loc → Prop} (w1 : (Jvm.Cond.methodLink own index y).before a0 Z = true) (w2 : (Jvm.Cond.declares y).before a0 Z = true) (hnf : NotFace s y) (w5 : (Jvm.Cond.selects K y z).before a0 Z = true) (w6 : (Jvm.Cond.instanceMethod z).before a0 Z = true) (w3 : (Jvm.Cond.initialized z.cls).before a0 Z = true) (w4 : (Jvm.Cond.code z bytes maxL ret).before a0 Z = true) (hy : y.cls ≠ "java/lang/invoke/MethodHandle" ∧ y.cls ≠ "java/lang/invoke/VarHandle")
    {a : Addr} (E : Exa Z h a K) {argsL : List Value} (hM : Pays l Z z bytes maxL ret [] rm (Value.ref a :: argsL).toArray h Qc) (hsize : Ls.size = c.maxLocals) {ps : List FieldType} {rt : Option FieldType} (hsig : parseMethodDescriptor y.desc = some ⟨ps, rt⟩) (hlen : argsL.length = ps.length) {W : Nat} (hW : (rest.map fun v => v.category).sum ≤ W) (hf : rm.frames + 1 ≤ R.frames) (hl : W + (maxL + 11) + rm.locals ≤ R.locals) (hcc : cells + rm.cells ≤ R.cells) (hss : slots + rm.slots ≤ R.slots) (hst : st = argsL.reverse ++ .ref a :: rest) (hd : decode c.code pc = .ok (.invokevirtual index, 3)) (hq : pc + 3 = q) (k : ∀ (T' : State) (v : Option Value) (L : List Loc), Stand p l e R s m args below meth c T' (locs ++ L) (cells + rm.cells) (slots + rm.slots) → Qc v T'.heap L → Ends p l e R s m args below meth c C S Q T' (mkF m q Ls (v.toList ++ rest))) : Ends p l e R s m args below meth c C S Q T (mkF m pc Ls st) := by
  obtain ⟨cq, kq, qa, qb, qc⟩ := isOf hZ eT E
  obtain ⟨v, _, ⟨T', L', k', n'⟩, -, X', ⟨L, hQ, l1, y1, z1⟩, stp⟩ := X.virtualBack hx (y := y) (z := z) hown (mvT hZ w1) (mvT hZ w2) hnf (mvT hZ w5) (mvT hZ w6) hy (backOf (W := W) hM hZ w4 w3 hf hl) qa qc (g := mkF m pc Ls st) rfl hsize (Steps.refl _) (argsL := argsL) (rest := rest) (lenOf hsig hlen) hst (by show 2 * 0 + _ ≤ _; omega) hd (fun _ _ => ⟨rfl, eT, hcc, hss⟩)
  dsimp only [Pt.U, Pt.locs, Pt.cells, Pt.slots] at X' l1 y1 z1 stp hQ
  subst l1 y1 z1 hq
  exact step (fun _ h => stp.trans h) (k T' v L X' hQ)
theorem pureK {T' : State} {v V : Option Value} {h : Heap} {L : List Loc} (X' : Stand p l e R s m args below meth c T' (locs ++ L) (cells + 0) (slots + 0)) (hQ : RetQ V h v T'.heap L) : Stand p l e R s m args below meth c T' locs cells slots ∧ T'.heap = h ∧ v = V := by
  obtain ⟨h1, h2, rfl⟩ := hQ
  rw [List.append_nil] at X'
  exact ⟨X', h2, h1⟩
theorem c_t {cd : ClassFile.Cond} {x : Int32} {b : Bool} (h : if_icmp.holds cd x 0 = b) : ifCond.holds cd x = b := (if0 cd x).trans h
theorem Ext_trans {h0 h h' : Heap} (E : Ext h0 h) (E' : Ext h h') : Ext h0 h' := ⟨Nat.le_trans E.1 E'.1, fun a c q => E'.2 a c (E.2 a c q)⟩
theorem Ext_wr {h0 h h' : Heap} {a : Addr} {sl : Nat} {v : Value} (E : Ext h0 h) (W : Wr h h' a sl v) (q : h0.size ≤ a) : Ext h0 h' :=
  ⟨Nat.le_trans E.1 (Keep.of_wr W).1, fun b c r => (Keep.of_wr W).2.1 b c (E.2 b c r) (ninS (Nat.ne_of_lt (Nat.lt_of_lt_of_le (Array.getElem?_eq_some_iff.mp r).1 q)) nin0)⟩
theorem Ext_keep {h0 h h' : Heap} {ws : List Addr} (E : Ext h0 h) (K : Keep h h' ws) (q : ∀ x ∈ ws, h0.size ≤ x) : Ext h0 h' :=
  ⟨Nat.le_trans E.1 K.1, fun b c r => K.2.1 b c (E.2 b c r) fun z => absurd (Array.getElem?_eq_some_iff.mp r).1 (Nat.not_lt.mpr (q b z))⟩
theorem rr_t {a b : Addr} (h : a = b) : decide ((Value.ref a : Value) = .ref b) = true := decide_eq_true (congrArg Value.ref h)
theorem rr_f {a b : Addr} (h : ¬ a = b) : decide ((Value.ref a : Value) = .ref b) = false := decide_eq_false fun q => h (Value.ref.inj q)
theorem l_t {x y : Int64} (h : x < y) : lcmpW x y < 0 := (lw_lt x y).mpr h
theorem l_f {x y : Int64} (h : ¬ x < y) : ¬ lcmpW x y < 0 := fun q => h ((lw_lt x y).mp q)
theorem g_t {x y : Int64} (h : y < x) : 0 < lcmpW x y := (lw_gt x y).mpr h
theorem g_f {x y : Int64} (h : ¬ y < x) : ¬ 0 < lcmpW x y := fun q => h ((lw_gt x y).mp q)
theorem e_t {x y : Int64} (h : x = y) : lcmpW x y = 0 := (lw_eq x y).mpr h
theorem e_f {x y : Int64} (h : ¬ x = y) : ¬ lcmpW x y = 0 := fun q => h ((lw_eq x y).mp q)
end
end Jvm.EKit
namespace Jvm.Pilot.@@N@@
open Jvm Jvm.ClassFile Sem Op Lib Jvm.Free Jvm.Stand Jvm.LawKit Jvm.RoadKit Bundle Jvm.Pilot.@@N@@.Jvm.D Jvm.EKit
theorem own_eqI {args : Array Value} {first s : State} {o : Option Outcome} {idx : List Nat} {t : Jvm.Term} {k : Int32} (h : (Jvm.Cond.eq t (.int k)).value args first o s idx = some true) : t.eval args first o idx s = some (.int k) := by
  simp only [Cond.value, Term.int_eval] at h
  cases ht : t.eval args first o idx s with
  | none => simp [ht] at h
  | some v => cases v <;> simp [ht] at h; rw [h]
def own_pick (i : Int32) (w_READ : Addr) (w_CLUSTER_MONITOR : Addr) (w_CLUSTER_MANAGE : Addr) (w_DELETE_INDEX : Addr) (w_CREATE_INDEX : Addr) (w_WRITE : Addr) (w_MANAGE : Addr) (w_MONITOR : Addr) (w_VIEW_INDEX_METADATA : Addr) : Addr := if i = 0 then w_READ else if i = 1 then w_WRITE else if i = 2 then w_CREATE_INDEX else if i = 3 then w_DELETE_INDEX else if i = 4 then w_MANAGE else if i = 5 then w_VIEW_INDEX_METADATA else if i = 6 then w_MONITOR else if i = 7 then w_CLUSTER_MONITOR else w_CLUSTER_MANAGE
theorem ef_rm1 (m : MethodId) (p0 : Int32) : entryFrame m #[(.int p0)] 1 = mkF m 0 #[.val (.int p0)] [] := by first | (simp [entryFrame, mkF, argsToLocals, Value.category]; done) | rfl
theorem pn_com_example_indexwarden_indexwarden_PrivilegeIsClusterLevelPinLaw : plainName "com/example/indexwarden/indexwarden/PrivilegeIsClusterLevelPinLaw" = true := by first | (simp [plainName, overriddenIn]; done) | decide +kernel
theorem d1_0 : decode method_3_code 0 = .ok (.iload_n 0, 1) := by decide +kernel
theorem d1_1 : decode method_3_code 1 = .ok (.ifCond .ne 7, 3) := by decide +kernel
theorem d1_4 : decode method_3_code 4 = .ok (.getstatic 20, 3) := by decide +kernel
theorem d1_7 : decode method_3_code 7 = .ok (.areturn, 1) := by decide +kernel
theorem d1_8 : decode method_3_code 8 = .ok (.iload_n 0, 1) := by decide +kernel
theorem d1_9 : decode method_3_code 9 = .ok (.iconst 1, 1) := by decide +kernel
theorem d1_10 : decode method_3_code 10 = .ok (.if_icmp .ne 7, 3) := by decide +kernel
theorem d1_13 : decode method_3_code 13 = .ok (.getstatic 24, 3) := by decide +kernel
theorem d1_16 : decode method_3_code 16 = .ok (.areturn, 1) := by decide +kernel
theorem d1_17 : decode method_3_code 17 = .ok (.iload_n 0, 1) := by decide +kernel
theorem d1_18 : decode method_3_code 18 = .ok (.iconst 2, 1) := by decide +kernel
theorem d1_19 : decode method_3_code 19 = .ok (.if_icmp .ne 7, 3) := by decide +kernel
theorem d1_22 : decode method_3_code 22 = .ok (.getstatic 27, 3) := by decide +kernel
theorem d1_25 : decode method_3_code 25 = .ok (.areturn, 1) := by decide +kernel
theorem d1_26 : decode method_3_code 26 = .ok (.iload_n 0, 1) := by decide +kernel
theorem d1_27 : decode method_3_code 27 = .ok (.iconst 3, 1) := by decide +kernel
theorem d1_28 : decode method_3_code 28 = .ok (.if_icmp .ne 7, 3) := by decide +kernel
theorem d1_31 : decode method_3_code 31 = .ok (.getstatic 30, 3) := by decide +kernel
theorem d1_34 : decode method_3_code 34 = .ok (.areturn, 1) := by decide +kernel
theorem d1_35 : decode method_3_code 35 = .ok (.iload_n 0, 1) := by decide +kernel
theorem d1_36 : decode method_3_code 36 = .ok (.iconst 4, 1) := by decide +kernel
theorem d1_37 : decode method_3_code 37 = .ok (.if_icmp .ne 7, 3) := by decide +kernel
theorem d1_40 : decode method_3_code 40 = .ok (.getstatic 33, 3) := by decide +kernel
theorem d1_43 : decode method_3_code 43 = .ok (.areturn, 1) := by decide +kernel
theorem d1_44 : decode method_3_code 44 = .ok (.iload_n 0, 1) := by decide +kernel
theorem d1_45 : decode method_3_code 45 = .ok (.iconst 5, 1) := by decide +kernel
theorem d1_46 : decode method_3_code 46 = .ok (.if_icmp .ne 7, 3) := by decide +kernel
theorem d1_49 : decode method_3_code 49 = .ok (.getstatic 36, 3) := by decide +kernel
theorem d1_52 : decode method_3_code 52 = .ok (.areturn, 1) := by decide +kernel
theorem d1_53 : decode method_3_code 53 = .ok (.iload_n 0, 1) := by decide +kernel
theorem d1_54 : decode method_3_code 54 = .ok (.bipush 6, 2) := by decide +kernel
theorem d1_56 : decode method_3_code 56 = .ok (.if_icmp .ne 7, 3) := by decide +kernel
theorem d1_59 : decode method_3_code 59 = .ok (.getstatic 39, 3) := by decide +kernel
theorem d1_62 : decode method_3_code 62 = .ok (.areturn, 1) := by decide +kernel
theorem d1_63 : decode method_3_code 63 = .ok (.iload_n 0, 1) := by decide +kernel
theorem d1_64 : decode method_3_code 64 = .ok (.bipush 7, 2) := by decide +kernel
theorem d1_66 : decode method_3_code 66 = .ok (.if_icmp .ne 7, 3) := by decide +kernel
theorem d1_69 : decode method_3_code 69 = .ok (.getstatic 42, 3) := by decide +kernel
theorem d1_72 : decode method_3_code 72 = .ok (.areturn, 1) := by decide +kernel
theorem d1_73 : decode method_3_code 73 = .ok (.getstatic 45, 3) := by decide +kernel
theorem d1_76 : decode method_3_code 76 = .ok (.areturn, 1) := by decide +kernel
set_option maxRecDepth 65536 in
set_option maxHeartbeats 40000000 in
theorem rm1 (l : Launch) (Z : State) (a0 : Array Value) (hw : ∀ d ∈ tables_1, d.before a0 Z = true) (ws : List Jvm.Cond) (p0 : Int32) (h0 : Heap)  (w_READ : Addr) (w_CLUSTER_MONITOR : Addr) (w_CLUSTER_MANAGE : Addr) (w_DELETE_INDEX : Addr) (w_CREATE_INDEX : Addr) (w_WRITE : Addr) (w_MANAGE : Addr) (w_MONITOR : Addr) (w_VIEW_INDEX_METADATA : Addr) (S_READ : Sta Z h0 "com/example/indexwarden/indexwarden/Privilege" "READ" "Lcom/example/indexwarden/indexwarden/Privilege;" (.ref w_READ)) (S_WRITE : Sta Z h0 "com/example/indexwarden/indexwarden/Privilege" "WRITE" "Lcom/example/indexwarden/indexwarden/Privilege;" (.ref w_WRITE)) (S_CREATE_INDEX : Sta Z h0 "com/example/indexwarden/indexwarden/Privilege" "CREATE_INDEX" "Lcom/example/indexwarden/indexwarden/Privilege;" (.ref w_CREATE_INDEX)) (S_DELETE_INDEX : Sta Z h0 "com/example/indexwarden/indexwarden/Privilege" "DELETE_INDEX" "Lcom/example/indexwarden/indexwarden/Privilege;" (.ref w_DELETE_INDEX)) (S_MANAGE : Sta Z h0 "com/example/indexwarden/indexwarden/Privilege" "MANAGE" "Lcom/example/indexwarden/indexwarden/Privilege;" (.ref w_MANAGE)) (S_VIEW_INDEX_METADATA : Sta Z h0 "com/example/indexwarden/indexwarden/Privilege" "VIEW_INDEX_METADATA" "Lcom/example/indexwarden/indexwarden/Privilege;" (.ref w_VIEW_INDEX_METADATA)) (S_MONITOR : Sta Z h0 "com/example/indexwarden/indexwarden/Privilege" "MONITOR" "Lcom/example/indexwarden/indexwarden/Privilege;" (.ref w_MONITOR)) (S_CLUSTER_MONITOR : Sta Z h0 "com/example/indexwarden/indexwarden/Privilege" "CLUSTER_MONITOR" "Lcom/example/indexwarden/indexwarden/Privilege;" (.ref w_CLUSTER_MONITOR)) (S_CLUSTER_MANAGE : Sta Z h0 "com/example/indexwarden/indexwarden/Privilege" "CLUSTER_MANAGE" "Lcom/example/indexwarden/indexwarden/Privilege;" (.ref w_CLUSTER_MANAGE)) :
    Pays l Z (⟨"com/example/indexwarden/indexwarden/PrivilegeIsClusterLevelPinLaw", "pick", "(I)Lcom/example/indexwarden/indexwarden/Privilege;"⟩ : MethodName) method_3_code 1 (some (.object "com/example/indexwarden/indexwarden/Privilege")) ws ({ frames := 0, cells := 0, slots := 0, locals := 0 } : Room) #[(.int p0)] h0 (RetQ (some (.ref (own_pick p0 w_READ w_CLUSTER_MONITOR w_CLUSTER_MANAGE w_DELETE_INDEX w_CREATE_INDEX w_WRITE w_MANAGE w_MONITOR w_VIEW_INDEX_METADATA))) h0) := by
  refine EKit.pays (plainFor_of_name pn_com_example_indexwarden_indexwarden_PrivilegeIsClusterLevelPinLaw) (fun m => ef_rm1 m p0) ?_
  intro p e s m below meth c s₁ hx hby hml hZ hown hnm hret X0 e0 hs0
  refine EKit.iloadN X0 hx rfl (hb hby d1_0) (q := 1) rfl ?_
  by_cases h1 : p0 = (0 : Int32)
  · skip
    refine EKit.ifNo X0 hx (EKit.c_t (teq h1).2) (hb hby d1_1) (q := 4) rfl ?_
    obtain ⟨T1, X1, e1, st1⟩ := getS X0 hx hZ (host := "") hown (hw _ (List.mem_of_getElem? (i := 5) rfl)) Via.refl e0 S_READ (g := (mkF m 4 #[.val (.int p0)] [])) rfl (hb hby d1_4)
    refine EKit.step st1 ?_
    show EKit.Ends p l e ({ frames := 0, cells := 0, slots := 0, locals := 0 } : Room) s m #[(.int p0)] below meth c ({ frames := 0, cells := 0, slots := 0, locals := 0 } : Room).cells ({ frames := 0, cells := 0, slots := 0, locals := 0 } : Room).slots (RetQ (some (.ref (own_pick p0 w_READ w_CLUSTER_MONITOR w_CLUSTER_MANAGE w_DELETE_INDEX w_CREATE_INDEX w_WRITE w_MANAGE w_MONITOR w_VIEW_INDEX_METADATA))) h0) T1 (mkF m 7 #[.val (.int p0)] [(.ref w_READ)])
    exact EKit.retA X1 hx hret rfl rfl rfl (hb hby d1_7) (⟨by simp [own_pick, h1], e1, rfl⟩) (by decide) (by decide)
  · skip
    refine EKit.ifYes X0 hx (EKit.c_t (feq h1).2) (hb hby d1_1) (by decide) (q := 8) (by decide) ?_
    refine EKit.iloadN X0 hx rfl (hb hby d1_8) (q := 9) rfl ?_
    refine EKit.iconst X0 hx (v := (1 : Int32)) rfl (hb hby d1_9) (q := 10) rfl ?_
    by_cases h10 : p0 = (1 : Int32)
    · skip
      refine EKit.icmpNo X0 hx ((teq h10).2) (hb hby d1_10) (q := 13) rfl ?_
      obtain ⟨T2, X2, e2, st2⟩ := getS X0 hx hZ (host := "") hown (hw _ (List.mem_of_getElem? (i := 21) rfl)) Via.refl e0 S_WRITE (g := (mkF m 13 #[.val (.int p0)] [])) rfl (hb hby d1_13)
      refine EKit.step st2 ?_
      show EKit.Ends p l e ({ frames := 0, cells := 0, slots := 0, locals := 0 } : Room) s m #[(.int p0)] below meth c ({ frames := 0, cells := 0, slots := 0, locals := 0 } : Room).cells ({ frames := 0, cells := 0, slots := 0, locals := 0 } : Room).slots (RetQ (some (.ref (own_pick p0 w_READ w_CLUSTER_MONITOR w_CLUSTER_MANAGE w_DELETE_INDEX w_CREATE_INDEX w_WRITE w_MANAGE w_MONITOR w_VIEW_INDEX_METADATA))) h0) T2 (mkF m 16 #[.val (.int p0)] [(.ref w_WRITE)])
      exact EKit.retA X2 hx hret rfl rfl rfl (hb hby d1_16) (⟨by simp [own_pick, h1, h10], e2, rfl⟩) (by decide) (by decide)
    · skip
      refine EKit.icmpYes X0 hx ((feq h10).2) (hb hby d1_10) (by decide) (q := 17) (by decide) ?_
      refine EKit.iloadN X0 hx rfl (hb hby d1_17) (q := 18) rfl ?_
      refine EKit.iconst X0 hx (v := (2 : Int32)) rfl (hb hby d1_18) (q := 19) rfl ?_
      by_cases h19 : p0 = (2 : Int32)
      · skip
        refine EKit.icmpNo X0 hx ((teq h19).2) (hb hby d1_19) (q := 22) rfl ?_
        obtain ⟨T3, X3, e3, st3⟩ := getS X0 hx hZ (host := "") hown (hw _ (List.mem_of_getElem? (i := 19) rfl)) Via.refl e0 S_CREATE_INDEX (g := (mkF m 22 #[.val (.int p0)] [])) rfl (hb hby d1_22)
        refine EKit.step st3 ?_
        show EKit.Ends p l e ({ frames := 0, cells := 0, slots := 0, locals := 0 } : Room) s m #[(.int p0)] below meth c ({ frames := 0, cells := 0, slots := 0, locals := 0 } : Room).cells ({ frames := 0, cells := 0, slots := 0, locals := 0 } : Room).slots (RetQ (some (.ref (own_pick p0 w_READ w_CLUSTER_MONITOR w_CLUSTER_MANAGE w_DELETE_INDEX w_CREATE_INDEX w_WRITE w_MANAGE w_MONITOR w_VIEW_INDEX_METADATA))) h0) T3 (mkF m 25 #[.val (.int p0)] [(.ref w_CREATE_INDEX)])
        exact EKit.retA X3 hx hret rfl rfl rfl (hb hby d1_25) (⟨by simp [own_pick, h1, h10, h19], e3, rfl⟩) (by decide) (by decide)
      · skip
        refine EKit.icmpYes X0 hx ((feq h19).2) (hb hby d1_19) (by decide) (q := 26) (by decide) ?_
        refine EKit.iloadN X0 hx rfl (hb hby d1_26) (q := 27) rfl ?_
        refine EKit.iconst X0 hx (v := (3 : Int32)) rfl (hb hby d1_27) (q := 28) rfl ?_
        by_cases h28 : p0 = (3 : Int32)
        · skip
          refine EKit.icmpNo X0 hx ((teq h28).2) (hb hby d1_28) (q := 31) rfl ?_
          obtain ⟨T4, X4, e4, st4⟩ := getS X0 hx hZ (host := "") hown (hw _ (List.mem_of_getElem? (i := 17) rfl)) Via.refl e0 S_DELETE_INDEX (g := (mkF m 31 #[.val (.int p0)] [])) rfl (hb hby d1_31)
          refine EKit.step st4 ?_
          show EKit.Ends p l e ({ frames := 0, cells := 0, slots := 0, locals := 0 } : Room) s m #[(.int p0)] below meth c ({ frames := 0, cells := 0, slots := 0, locals := 0 } : Room).cells ({ frames := 0, cells := 0, slots := 0, locals := 0 } : Room).slots (RetQ (some (.ref (own_pick p0 w_READ w_CLUSTER_MONITOR w_CLUSTER_MANAGE w_DELETE_INDEX w_CREATE_INDEX w_WRITE w_MANAGE w_MONITOR w_VIEW_INDEX_METADATA))) h0) T4 (mkF m 34 #[.val (.int p0)] [(.ref w_DELETE_INDEX)])
          exact EKit.retA X4 hx hret rfl rfl rfl (hb hby d1_34) (⟨by simp [own_pick, h1, h10, h19, h28], e4, rfl⟩) (by decide) (by decide)
        · skip
          refine EKit.icmpYes X0 hx ((feq h28).2) (hb hby d1_28) (by decide) (q := 35) (by decide) ?_
          refine EKit.iloadN X0 hx rfl (hb hby d1_35) (q := 36) rfl ?_
          refine EKit.iconst X0 hx (v := (4 : Int32)) rfl (hb hby d1_36) (q := 37) rfl ?_
          by_cases h37 : p0 = (4 : Int32)
          · skip
            refine EKit.icmpNo X0 hx ((teq h37).2) (hb hby d1_37) (q := 40) rfl ?_
            obtain ⟨T5, X5, e5, st5⟩ := getS X0 hx hZ (host := "") hown (hw _ (List.mem_of_getElem? (i := 24) rfl)) Via.refl e0 S_MANAGE (g := (mkF m 40 #[.val (.int p0)] [])) rfl (hb hby d1_40)
            refine EKit.step st5 ?_
            show EKit.Ends p l e ({ frames := 0, cells := 0, slots := 0, locals := 0 } : Room) s m #[(.int p0)] below meth c ({ frames := 0, cells := 0, slots := 0, locals := 0 } : Room).cells ({ frames := 0, cells := 0, slots := 0, locals := 0 } : Room).slots (RetQ (some (.ref (own_pick p0 w_READ w_CLUSTER_MONITOR w_CLUSTER_MANAGE w_DELETE_INDEX w_CREATE_INDEX w_WRITE w_MANAGE w_MONITOR w_VIEW_INDEX_METADATA))) h0) T5 (mkF m 43 #[.val (.int p0)] [(.ref w_MANAGE)])
            exact EKit.retA X5 hx hret rfl rfl rfl (hb hby d1_43) (⟨by simp [own_pick, h1, h10, h19, h28, h37], e5, rfl⟩) (by decide) (by decide)
          · skip
            refine EKit.icmpYes X0 hx ((feq h37).2) (hb hby d1_37) (by decide) (q := 44) (by decide) ?_
            refine EKit.iloadN X0 hx rfl (hb hby d1_44) (q := 45) rfl ?_
            refine EKit.iconst X0 hx (v := (5 : Int32)) rfl (hb hby d1_45) (q := 46) rfl ?_
            by_cases h46 : p0 = (5 : Int32)
            · skip
              refine EKit.icmpNo X0 hx ((teq h46).2) (hb hby d1_46) (q := 49) rfl ?_
              obtain ⟨T6, X6, e6, st6⟩ := getS X0 hx hZ (host := "") hown (hw _ (List.mem_of_getElem? (i := 29) rfl)) Via.refl e0 S_VIEW_INDEX_METADATA (g := (mkF m 49 #[.val (.int p0)] [])) rfl (hb hby d1_49)
              refine EKit.step st6 ?_
              show EKit.Ends p l e ({ frames := 0, cells := 0, slots := 0, locals := 0 } : Room) s m #[(.int p0)] below meth c ({ frames := 0, cells := 0, slots := 0, locals := 0 } : Room).cells ({ frames := 0, cells := 0, slots := 0, locals := 0 } : Room).slots (RetQ (some (.ref (own_pick p0 w_READ w_CLUSTER_MONITOR w_CLUSTER_MANAGE w_DELETE_INDEX w_CREATE_INDEX w_WRITE w_MANAGE w_MONITOR w_VIEW_INDEX_METADATA))) h0) T6 (mkF m 52 #[.val (.int p0)] [(.ref w_VIEW_INDEX_METADATA)])
              exact EKit.retA X6 hx hret rfl rfl rfl (hb hby d1_52) (⟨by simp [own_pick, h1, h10, h19, h28, h37, h46], e6, rfl⟩) (by decide) (by decide)
            · skip
              refine EKit.icmpYes X0 hx ((feq h46).2) (hb hby d1_46) (by decide) (q := 53) (by decide) ?_
              refine EKit.iloadN X0 hx rfl (hb hby d1_53) (q := 54) rfl ?_
              refine EKit.bipush X0 hx (v := (6 : Int32)) rfl (hb hby d1_54) (q := 56) rfl ?_
              by_cases h56 : p0 = (6 : Int32)
              · skip
                refine EKit.icmpNo X0 hx ((teq h56).2) (hb hby d1_56) (q := 59) rfl ?_
                obtain ⟨T7, X7, e7, st7⟩ := getS X0 hx hZ (host := "") hown (hw _ (List.mem_of_getElem? (i := 27) rfl)) Via.refl e0 S_MONITOR (g := (mkF m 59 #[.val (.int p0)] [])) rfl (hb hby d1_59)
                refine EKit.step st7 ?_
                show EKit.Ends p l e ({ frames := 0, cells := 0, slots := 0, locals := 0 } : Room) s m #[(.int p0)] below meth c ({ frames := 0, cells := 0, slots := 0, locals := 0 } : Room).cells ({ frames := 0, cells := 0, slots := 0, locals := 0 } : Room).slots (RetQ (some (.ref (own_pick p0 w_READ w_CLUSTER_MONITOR w_CLUSTER_MANAGE w_DELETE_INDEX w_CREATE_INDEX w_WRITE w_MANAGE w_MONITOR w_VIEW_INDEX_METADATA))) h0) T7 (mkF m 62 #[.val (.int p0)] [(.ref w_MONITOR)])
                exact EKit.retA X7 hx hret rfl rfl rfl (hb hby d1_62) (⟨by simp [own_pick, h1, h10, h19, h28, h37, h46, h56], e7, rfl⟩) (by decide) (by decide)
              · skip
                refine EKit.icmpYes X0 hx ((feq h56).2) (hb hby d1_56) (by decide) (q := 63) (by decide) ?_
                refine EKit.iloadN X0 hx rfl (hb hby d1_63) (q := 64) rfl ?_
                refine EKit.bipush X0 hx (v := (7 : Int32)) rfl (hb hby d1_64) (q := 66) rfl ?_
                by_cases h66 : p0 = (7 : Int32)
                · skip
                  refine EKit.icmpNo X0 hx ((teq h66).2) (hb hby d1_66) (q := 69) rfl ?_
                  obtain ⟨T8, X8, e8, st8⟩ := getS X0 hx hZ (host := "") hown (hw _ (List.mem_of_getElem? (i := 23) rfl)) Via.refl e0 S_CLUSTER_MONITOR (g := (mkF m 69 #[.val (.int p0)] [])) rfl (hb hby d1_69)
                  refine EKit.step st8 ?_
                  show EKit.Ends p l e ({ frames := 0, cells := 0, slots := 0, locals := 0 } : Room) s m #[(.int p0)] below meth c ({ frames := 0, cells := 0, slots := 0, locals := 0 } : Room).cells ({ frames := 0, cells := 0, slots := 0, locals := 0 } : Room).slots (RetQ (some (.ref (own_pick p0 w_READ w_CLUSTER_MONITOR w_CLUSTER_MANAGE w_DELETE_INDEX w_CREATE_INDEX w_WRITE w_MANAGE w_MONITOR w_VIEW_INDEX_METADATA))) h0) T8 (mkF m 72 #[.val (.int p0)] [(.ref w_CLUSTER_MONITOR)])
                  exact EKit.retA X8 hx hret rfl rfl rfl (hb hby d1_72) (⟨by simp [own_pick, h1, h10, h19, h28, h37, h46, h56, h66], e8, rfl⟩) (by decide) (by decide)
                · skip
                  refine EKit.icmpYes X0 hx ((feq h66).2) (hb hby d1_66) (by decide) (q := 73) (by decide) ?_
                  obtain ⟨T9, X9, e9, st9⟩ := getS X0 hx hZ (host := "") hown (hw _ (List.mem_of_getElem? (i := 26) rfl)) Via.refl e0 S_CLUSTER_MANAGE (g := (mkF m 73 #[.val (.int p0)] [])) rfl (hb hby d1_73)
                  refine EKit.step st9 ?_
                  show EKit.Ends p l e ({ frames := 0, cells := 0, slots := 0, locals := 0 } : Room) s m #[(.int p0)] below meth c ({ frames := 0, cells := 0, slots := 0, locals := 0 } : Room).cells ({ frames := 0, cells := 0, slots := 0, locals := 0 } : Room).slots (RetQ (some (.ref (own_pick p0 w_READ w_CLUSTER_MONITOR w_CLUSTER_MANAGE w_DELETE_INDEX w_CREATE_INDEX w_WRITE w_MANAGE w_MONITOR w_VIEW_INDEX_METADATA))) h0) T9 (mkF m 76 #[.val (.int p0)] [(.ref w_CLUSTER_MANAGE)])
                  exact EKit.retA X9 hx hret rfl rfl rfl (hb hby d1_76) (⟨by simp [own_pick, h1, h10, h19, h28, h37, h46, h56, h66], e9, rfl⟩) (by decide) (by decide)
def own_two (a u v : Addr) : Int32 := if a = u ∨ a = v then 1 else 0
theorem ef_rm2 (m : MethodId) (r0 : Addr) : entryFrame m #[(.ref r0)] 1 = mkF m 0 #[.val (.ref r0)] [] := by first | (simp [entryFrame, mkF, argsToLocals, Value.category]; done) | rfl
theorem pn_com_example_indexwarden_indexwarden_Privilege : plainName "com/example/indexwarden/indexwarden/Privilege" = true := by first | (simp [plainName, overriddenIn]; done) | decide +kernel
theorem d2_0 : decode prog_51_method_8_code 0 = .ok (.aload_n 0, 1) := by decide +kernel
theorem d2_1 : decode prog_51_method_8_code 1 = .ok (.getstatic 25, 3) := by decide +kernel
theorem d2_4 : decode prog_51_method_8_code 4 = .ok (.if_acmp .eq 10, 3) := by decide +kernel
theorem d2_14 : decode prog_51_method_8_code 14 = .ok (.iconst 1, 1) := by decide +kernel
theorem d2_15 : decode prog_51_method_8_code 15 = .ok (.goto 4, 3) := by decide +kernel
theorem d2_19 : decode prog_51_method_8_code 19 = .ok (.ireturn, 1) := by decide +kernel
theorem d2_7 : decode prog_51_method_8_code 7 = .ok (.aload_n 0, 1) := by decide +kernel
theorem d2_8 : decode prog_51_method_8_code 8 = .ok (.getstatic 28, 3) := by decide +kernel
theorem d2_11 : decode prog_51_method_8_code 11 = .ok (.if_acmp .ne 7, 3) := by decide +kernel
theorem d2_18 : decode prog_51_method_8_code 18 = .ok (.iconst 0, 1) := by decide +kernel
set_option maxRecDepth 65536 in
set_option maxHeartbeats 40000000 in
theorem rm2 (l : Launch) (Z : State) (a0 : Array Value) (hw : ∀ d ∈ tables_1, d.before a0 Z = true) (ws : List Jvm.Cond) (r0 : Addr) (h0 : Heap) (w_CLUSTER_MONITOR w_CLUSTER_MANAGE : Addr) (S_CLUSTER_MONITOR : Sta Z h0 "com/example/indexwarden/indexwarden/Privilege" "CLUSTER_MONITOR" "Lcom/example/indexwarden/indexwarden/Privilege;" (.ref w_CLUSTER_MONITOR)) (S_CLUSTER_MANAGE : Sta Z h0 "com/example/indexwarden/indexwarden/Privilege" "CLUSTER_MANAGE" "Lcom/example/indexwarden/indexwarden/Privilege;" (.ref w_CLUSTER_MANAGE)) :
    Pays l Z (⟨"com/example/indexwarden/indexwarden/Privilege", "isClusterLevel", "()Z"⟩ : MethodName) prog_51_method_8_code 1 (some .boolean) ws ({ frames := 0, cells := 0, slots := 0, locals := 0 } : Room) #[(.ref r0)] h0 (RetQ (some (.int (own_two r0 w_CLUSTER_MONITOR w_CLUSTER_MANAGE))) h0) := by
  refine EKit.pays (plainFor_of_name pn_com_example_indexwarden_indexwarden_Privilege) (fun m => ef_rm2 m r0) ?_
  intro p e s m below meth c s₁ hx hby hml hZ hown hnm hret X0 e0 hs0
  refine EKit.aloadN X0 hx rfl rfl (hb hby d2_0) (q := 1) rfl ?_
  obtain ⟨T1, X1, e1, st1⟩ := getS X0 hx hZ (host := "") hown (hw _ (List.mem_of_getElem? (i := 13) rfl)) Via.refl e0 S_CLUSTER_MONITOR (g := (mkF m 1 #[.val (.ref r0)] [(.ref r0)])) rfl (hb hby d2_1)
  refine EKit.step st1 ?_
  show EKit.Ends p l e ({ frames := 0, cells := 0, slots := 0, locals := 0 } : Room) s m #[(.ref r0)] below meth c ({ frames := 0, cells := 0, slots := 0, locals := 0 } : Room).cells ({ frames := 0, cells := 0, slots := 0, locals := 0 } : Room).slots (RetQ (some (.int (own_two r0 w_CLUSTER_MONITOR w_CLUSTER_MANAGE))) h0) T1 (mkF m 4 #[.val (.ref r0)] [(.ref w_CLUSTER_MONITOR), (.ref r0)])
  by_cases h4 : r0 = w_CLUSTER_MONITOR
  · skip
    refine EKit.acmp X1 hx rfl rfl (same := true) (EKit.rr_t h4) (hb hby d2_4) (by decide) (q := 14) (by decide) ?_
    refine EKit.iconst X1 hx (v := (1 : Int32)) rfl (hb hby d2_14) (q := 15) rfl ?_
    refine EKit.goto X1 hx (hb hby d2_15) (by decide) (q := 19) (by decide) ?_
    exact EKit.retZ X1 hx hret (by simp) (hb hby d2_19) (⟨congrArg (fun z => some (Value.int z)) (show nar .boolean (1 : Int32) = own_two r0 w_CLUSTER_MONITOR w_CLUSTER_MANAGE from by simp [own_two, h4] <;> decide), e1, rfl⟩) (by decide) (by decide)
  · skip
    refine EKit.acmp X1 hx rfl rfl (same := false) (EKit.rr_f h4) (hb hby d2_4) (by decide) (q := 7) (by decide) ?_
    refine EKit.aloadN X1 hx rfl rfl (hb hby d2_7) (q := 8) rfl ?_
    obtain ⟨T2, X2, e2, st2⟩ := getS X1 hx hZ (host := "") hown (hw _ (List.mem_of_getElem? (i := 15) rfl)) Via.refl e1 S_CLUSTER_MANAGE (g := (mkF m 8 #[.val (.ref r0)] [(.ref r0)])) rfl (hb hby d2_8)
    refine EKit.step st2 ?_
    show EKit.Ends p l e ({ frames := 0, cells := 0, slots := 0, locals := 0 } : Room) s m #[(.ref r0)] below meth c ({ frames := 0, cells := 0, slots := 0, locals := 0 } : Room).cells ({ frames := 0, cells := 0, slots := 0, locals := 0 } : Room).slots (RetQ (some (.int (own_two r0 w_CLUSTER_MONITOR w_CLUSTER_MANAGE))) h0) T2 (mkF m 11 #[.val (.ref r0)] [(.ref w_CLUSTER_MANAGE), (.ref r0)])
    by_cases h11 : r0 = w_CLUSTER_MANAGE
    · skip
      refine EKit.acmp X2 hx rfl rfl (same := true) (EKit.rr_t h11) (hb hby d2_11) (by decide) (q := 14) (by decide) ?_
      refine EKit.iconst X2 hx (v := (1 : Int32)) rfl (hb hby d2_14) (q := 15) rfl ?_
      refine EKit.goto X2 hx (hb hby d2_15) (by decide) (q := 19) (by decide) ?_
      exact EKit.retZ X2 hx hret (by simp) (hb hby d2_19) (⟨congrArg (fun z => some (Value.int z)) (show nar .boolean (1 : Int32) = own_two r0 w_CLUSTER_MONITOR w_CLUSTER_MANAGE from by simp [own_two, h4, h11] <;> decide), e2, rfl⟩) (by decide) (by decide)
    · skip
      refine EKit.acmp X2 hx rfl rfl (same := false) (EKit.rr_f h11) (hb hby d2_11) (by decide) (q := 18) (by decide) ?_
      refine EKit.iconst X2 hx (v := (0 : Int32)) rfl (hb hby d2_18) (q := 19) rfl ?_
      exact EKit.retZ X2 hx hret (by simp) (hb hby d2_19) (⟨congrArg (fun z => some (Value.int z)) (show nar .boolean (0 : Int32) = own_two r0 w_CLUSTER_MONITOR w_CLUSTER_MANAGE from by simp [own_two, h4, h11] <;> decide), e2, rfl⟩) (by decide) (by decide)
theorem own_exa {Z : State} {h0 : Heap} (i : Int32) (w_READ : Addr) (w_CLUSTER_MONITOR : Addr) (w_CLUSTER_MANAGE : Addr) (w_DELETE_INDEX : Addr) (w_CREATE_INDEX : Addr) (w_WRITE : Addr) (w_MANAGE : Addr) (w_MONITOR : Addr) (w_VIEW_INDEX_METADATA : Addr) (E_READ : Exa Z h0 w_READ "com/example/indexwarden/indexwarden/Privilege") (E_CLUSTER_MONITOR : Exa Z h0 w_CLUSTER_MONITOR "com/example/indexwarden/indexwarden/Privilege") (E_CLUSTER_MANAGE : Exa Z h0 w_CLUSTER_MANAGE "com/example/indexwarden/indexwarden/Privilege") (E_DELETE_INDEX : Exa Z h0 w_DELETE_INDEX "com/example/indexwarden/indexwarden/Privilege") (E_CREATE_INDEX : Exa Z h0 w_CREATE_INDEX "com/example/indexwarden/indexwarden/Privilege") (E_WRITE : Exa Z h0 w_WRITE "com/example/indexwarden/indexwarden/Privilege") (E_MANAGE : Exa Z h0 w_MANAGE "com/example/indexwarden/indexwarden/Privilege") (E_MONITOR : Exa Z h0 w_MONITOR "com/example/indexwarden/indexwarden/Privilege") (E_VIEW_INDEX_METADATA : Exa Z h0 w_VIEW_INDEX_METADATA "com/example/indexwarden/indexwarden/Privilege") : Exa Z h0 (own_pick i w_READ w_CLUSTER_MONITOR w_CLUSTER_MANAGE w_DELETE_INDEX w_CREATE_INDEX w_WRITE w_MANAGE w_MONITOR w_VIEW_INDEX_METADATA) "com/example/indexwarden/indexwarden/Privilege" := by
  unfold own_pick; repeat' split
  all_goals assumption
theorem own_ans (O : Addr → Option Value) (i : Int32) (w_READ : Addr) (w_CLUSTER_MONITOR : Addr) (w_CLUSTER_MANAGE : Addr) (w_DELETE_INDEX : Addr) (w_CREATE_INDEX : Addr) (w_WRITE : Addr) (w_MANAGE : Addr) (w_MONITOR : Addr) (w_VIEW_INDEX_METADATA : Addr) (O_READ : O w_READ = some (Value.int (0 : Int32))) (O_CLUSTER_MONITOR : O w_CLUSTER_MONITOR = some (Value.int (7 : Int32))) (O_CLUSTER_MANAGE : O w_CLUSTER_MANAGE = some (Value.int (8 : Int32))) (O_DELETE_INDEX : O w_DELETE_INDEX = some (Value.int (3 : Int32))) (O_CREATE_INDEX : O w_CREATE_INDEX = some (Value.int (2 : Int32))) (O_WRITE : O w_WRITE = some (Value.int (1 : Int32))) (O_MANAGE : O w_MANAGE = some (Value.int (4 : Int32))) (O_MONITOR : O w_MONITOR = some (Value.int (6 : Int32))) (O_VIEW_INDEX_METADATA : O w_VIEW_INDEX_METADATA = some (Value.int (5 : Int32))) (hi : i = 0 ∨ i = 1 ∨ i = 2 ∨ i = 3 ∨ i = 4 ∨ i = 5 ∨ i = 6 ∨ i = 7 ∨ i = 8) : own_two (own_pick i w_READ w_CLUSTER_MONITOR w_CLUSTER_MANAGE w_DELETE_INDEX w_CREATE_INDEX w_WRITE w_MANAGE w_MONITOR w_VIEW_INDEX_METADATA) w_CLUSTER_MONITOR w_CLUSTER_MANAGE = if i = 7 ∨ i = 8 then 1 else 0 := by
  rcases hi with rfl | rfl | rfl | rfl | rfl | rfl | rfl | rfl | rfl
  · have q0 : ¬ w_READ = w_CLUSTER_MONITOR := (fun z => absurd (O_READ.symm.trans (z ▸ O_CLUSTER_MONITOR)) (by decide)); have q1 : ¬ w_READ = w_CLUSTER_MANAGE := (fun z => absurd (O_READ.symm.trans (z ▸ O_CLUSTER_MANAGE)) (by decide)); simp [own_two, own_pick, q0, q1]
  · have q0 : ¬ w_WRITE = w_CLUSTER_MONITOR := (fun z => absurd (O_WRITE.symm.trans (z ▸ O_CLUSTER_MONITOR)) (by decide)); have q1 : ¬ w_WRITE = w_CLUSTER_MANAGE := (fun z => absurd (O_WRITE.symm.trans (z ▸ O_CLUSTER_MANAGE)) (by decide)); simp [own_two, own_pick, q0, q1]
  · have q0 : ¬ w_CREATE_INDEX = w_CLUSTER_MONITOR := (fun z => absurd (O_CREATE_INDEX.symm.trans (z ▸ O_CLUSTER_MONITOR)) (by decide)); have q1 : ¬ w_CREATE_INDEX = w_CLUSTER_MANAGE := (fun z => absurd (O_CREATE_INDEX.symm.trans (z ▸ O_CLUSTER_MANAGE)) (by decide)); simp [own_two, own_pick, q0, q1]
  · have q0 : ¬ w_DELETE_INDEX = w_CLUSTER_MONITOR := (fun z => absurd (O_DELETE_INDEX.symm.trans (z ▸ O_CLUSTER_MONITOR)) (by decide)); have q1 : ¬ w_DELETE_INDEX = w_CLUSTER_MANAGE := (fun z => absurd (O_DELETE_INDEX.symm.trans (z ▸ O_CLUSTER_MANAGE)) (by decide)); simp [own_two, own_pick, q0, q1]
  · have q0 : ¬ w_MANAGE = w_CLUSTER_MONITOR := (fun z => absurd (O_MANAGE.symm.trans (z ▸ O_CLUSTER_MONITOR)) (by decide)); have q1 : ¬ w_MANAGE = w_CLUSTER_MANAGE := (fun z => absurd (O_MANAGE.symm.trans (z ▸ O_CLUSTER_MANAGE)) (by decide)); simp [own_two, own_pick, q0, q1]
  · have q0 : ¬ w_VIEW_INDEX_METADATA = w_CLUSTER_MONITOR := (fun z => absurd (O_VIEW_INDEX_METADATA.symm.trans (z ▸ O_CLUSTER_MONITOR)) (by decide)); have q1 : ¬ w_VIEW_INDEX_METADATA = w_CLUSTER_MANAGE := (fun z => absurd (O_VIEW_INDEX_METADATA.symm.trans (z ▸ O_CLUSTER_MANAGE)) (by decide)); simp [own_two, own_pick, q0, q1]
  · have q0 : ¬ w_MONITOR = w_CLUSTER_MONITOR := (fun z => absurd (O_MONITOR.symm.trans (z ▸ O_CLUSTER_MONITOR)) (by decide)); have q1 : ¬ w_MONITOR = w_CLUSTER_MANAGE := (fun z => absurd (O_MONITOR.symm.trans (z ▸ O_CLUSTER_MANAGE)) (by decide)); simp [own_two, own_pick, q0, q1]
  · have q1 : ¬ w_CLUSTER_MONITOR = w_CLUSTER_MANAGE := (fun z => absurd (O_CLUSTER_MONITOR.symm.trans (z ▸ O_CLUSTER_MANAGE)) (by decide)); simp [own_two, own_pick, q1]
  · have q0 : ¬ w_CLUSTER_MANAGE = w_CLUSTER_MONITOR := (fun z => absurd (O_CLUSTER_MANAGE.symm.trans (z ▸ O_CLUSTER_MONITOR)) (by decide)); simp [own_two, own_pick, q0]
theorem own_r9 (x : Int32) : (x &&& 2147483647) % 9 = 0 ∨ (x &&& 2147483647) % 9 = 1 ∨ (x &&& 2147483647) % 9 = 2 ∨ (x &&& 2147483647) % 9 = 3 ∨ (x &&& 2147483647) % 9 = 4 ∨ (x &&& 2147483647) % 9 = 5 ∨ (x &&& 2147483647) % 9 = 6 ∨ (x &&& 2147483647) % 9 = 7 ∨ (x &&& 2147483647) % 9 = 8 := by
  have h := c_mask x 2147483647 31 (by decide) (by decide +kernel)
  have h2 := (c_irem (x &&& 2147483647) 9 9 rfl).1 (by omega)
  generalize (x &&& 2147483647) % 9 = y at h2 ⊢
  have e : ∀ k : Int32, y = k ↔ y.toInt = k.toInt := fun k => Int32.toInt_inj.symm
  simp only [e, show (0 : Int32).toInt = 0 from rfl, show (1 : Int32).toInt = 1 from rfl, show (2 : Int32).toInt = 2 from rfl, show (3 : Int32).toInt = 3 from rfl, show (4 : Int32).toInt = 4 from rfl, show (5 : Int32).toInt = 5 from rfl, show (6 : Int32).toInt = 6 from rfl, show (7 : Int32).toInt = 7 from rfl, show (8 : Int32).toInt = 8 from rfl]
  omega
theorem ef_rm0 (m : MethodId) (p0 : Int32) : entryFrame m #[(.int p0)] maxLocals = mkF m 0 #[.val (.int p0), .unset, .unset, .unset] [] := by first | (simp [entryFrame, mkF, argsToLocals, Value.category, maxLocals]; done) | rfl
theorem pd__I_Lcom_example_indexwarden_indexwarden_Privilege_ : parseMethodDescriptor "(I)Lcom/example/indexwarden/indexwarden/Privilege;" = some ⟨[.int], some (.object "com/example/indexwarden/indexwarden/Privilege")⟩ := by decide +kernel
theorem pd___Z : parseMethodDescriptor "()Z" = some ⟨[], some .boolean⟩ := by decide +kernel
set_option maxRecDepth 65536 in
set_option maxHeartbeats 40000000 in
theorem rm0 (l : Launch) (Z : State) (a0 : Array Value) (hw : ∀ d ∈ tables_1, d.before a0 Z = true) (ws : List Jvm.Cond) (p0 : Int32) (h0 : Heap)  (w_READ : Addr) (w_CLUSTER_MONITOR : Addr) (w_CLUSTER_MANAGE : Addr) (w_DELETE_INDEX : Addr) (w_CREATE_INDEX : Addr) (w_WRITE : Addr) (w_MANAGE : Addr) (w_MONITOR : Addr) (w_VIEW_INDEX_METADATA : Addr) (S_READ : Sta Z h0 "com/example/indexwarden/indexwarden/Privilege" "READ" "Lcom/example/indexwarden/indexwarden/Privilege;" (.ref w_READ)) (S_CLUSTER_MONITOR : Sta Z h0 "com/example/indexwarden/indexwarden/Privilege" "CLUSTER_MONITOR" "Lcom/example/indexwarden/indexwarden/Privilege;" (.ref w_CLUSTER_MONITOR)) (S_CLUSTER_MANAGE : Sta Z h0 "com/example/indexwarden/indexwarden/Privilege" "CLUSTER_MANAGE" "Lcom/example/indexwarden/indexwarden/Privilege;" (.ref w_CLUSTER_MANAGE)) (S_DELETE_INDEX : Sta Z h0 "com/example/indexwarden/indexwarden/Privilege" "DELETE_INDEX" "Lcom/example/indexwarden/indexwarden/Privilege;" (.ref w_DELETE_INDEX)) (S_CREATE_INDEX : Sta Z h0 "com/example/indexwarden/indexwarden/Privilege" "CREATE_INDEX" "Lcom/example/indexwarden/indexwarden/Privilege;" (.ref w_CREATE_INDEX)) (S_WRITE : Sta Z h0 "com/example/indexwarden/indexwarden/Privilege" "WRITE" "Lcom/example/indexwarden/indexwarden/Privilege;" (.ref w_WRITE)) (S_MANAGE : Sta Z h0 "com/example/indexwarden/indexwarden/Privilege" "MANAGE" "Lcom/example/indexwarden/indexwarden/Privilege;" (.ref w_MANAGE)) (S_MONITOR : Sta Z h0 "com/example/indexwarden/indexwarden/Privilege" "MONITOR" "Lcom/example/indexwarden/indexwarden/Privilege;" (.ref w_MONITOR)) (S_VIEW_INDEX_METADATA : Sta Z h0 "com/example/indexwarden/indexwarden/Privilege" "VIEW_INDEX_METADATA" "Lcom/example/indexwarden/indexwarden/Privilege;" (.ref w_VIEW_INDEX_METADATA)) (E_READ : Exa Z h0 w_READ "com/example/indexwarden/indexwarden/Privilege") (E_CLUSTER_MONITOR : Exa Z h0 w_CLUSTER_MONITOR "com/example/indexwarden/indexwarden/Privilege") (E_CLUSTER_MANAGE : Exa Z h0 w_CLUSTER_MANAGE "com/example/indexwarden/indexwarden/Privilege") (E_DELETE_INDEX : Exa Z h0 w_DELETE_INDEX "com/example/indexwarden/indexwarden/Privilege") (E_CREATE_INDEX : Exa Z h0 w_CREATE_INDEX "com/example/indexwarden/indexwarden/Privilege") (E_WRITE : Exa Z h0 w_WRITE "com/example/indexwarden/indexwarden/Privilege") (E_MANAGE : Exa Z h0 w_MANAGE "com/example/indexwarden/indexwarden/Privilege") (E_MONITOR : Exa Z h0 w_MONITOR "com/example/indexwarden/indexwarden/Privilege") (E_VIEW_INDEX_METADATA : Exa Z h0 w_VIEW_INDEX_METADATA "com/example/indexwarden/indexwarden/Privilege") (O : Addr → Option Value) (O_READ : O w_READ = some (Value.int (0 : Int32))) (O_CLUSTER_MONITOR : O w_CLUSTER_MONITOR = some (Value.int (7 : Int32))) (O_CLUSTER_MANAGE : O w_CLUSTER_MANAGE = some (Value.int (8 : Int32))) (O_DELETE_INDEX : O w_DELETE_INDEX = some (Value.int (3 : Int32))) (O_CREATE_INDEX : O w_CREATE_INDEX = some (Value.int (2 : Int32))) (O_WRITE : O w_WRITE = some (Value.int (1 : Int32))) (O_MANAGE : O w_MANAGE = some (Value.int (4 : Int32))) (O_MONITOR : O w_MONITOR = some (Value.int (6 : Int32))) (O_VIEW_INDEX_METADATA : O w_VIEW_INDEX_METADATA = some (Value.int (5 : Int32))) :
    Pays l Z x code maxLocals ret ws room_1 #[(.int p0)] h0 (fun v h L => v = some (.int (1 : Int32)) ∧ Fr h0.size L) := by
  refine EKit.pays (plainFor_of_name pn_com_example_indexwarden_indexwarden_PrivilegeIsClusterLevelPinLaw) (fun m => ef_rm0 m p0) ?_
  intro p e s m below meth c s₁ hx hby hml hZ hown hnm hret X0 e0 hs0
  have hexa := own_exa (Z := Z) (h0 := h0) ((p0 &&& (2147483647 : Int32)) % (9 : Int32)) w_READ w_CLUSTER_MONITOR w_CLUSTER_MANAGE w_DELETE_INDEX w_CREATE_INDEX w_WRITE w_MANAGE w_MONITOR w_VIEW_INDEX_METADATA E_READ E_CLUSTER_MONITOR E_CLUSTER_MANAGE E_DELETE_INDEX E_CREATE_INDEX E_WRITE E_MANAGE E_MONITOR E_VIEW_INDEX_METADATA
  refine EKit.iloadN X0 hx rfl (hb hby at_0) (q := 1) rfl ?_
  refine EKit.ldcInt X0 hx hZ hown (hw _ (List.mem_of_getElem? (i := 0) rfl)) (hb hby at_1) (q := 3) rfl ?_
  refine EKit.iand X0 hx  (hb hby at_3) (q := 4) rfl ?_
  refine EKit.bipush X0 hx (v := (9 : Int32)) rfl (hb hby at_4) (q := 6) rfl ?_
  refine EKit.irem X0 hx (by decide) (hb hby at_6) (q := 7) rfl ?_
  refine EKit.istoreN X0 hx (l' := #[.val (.int p0), .val (.int ((p0 &&& (2147483647 : Int32)) % (9 : Int32))), .unset, .unset]) rfl (hb hby at_7) (q := 8) rfl ?_
  refine EKit.iloadN X0 hx rfl (hb hby at_8) (q := 9) rfl ?_
  refine EKit.callS X0 hx hZ hown e0 (y := (⟨"com/example/indexwarden/indexwarden/PrivilegeIsClusterLevelPinLaw", "pick", "(I)Lcom/example/indexwarden/indexwarden/Privilege;"⟩ : MethodName)) (hw _ (List.mem_of_getElem? (i := 1) rfl)) (hw _ (List.mem_of_getElem? (i := 2) rfl)) (hw _ (List.mem_of_getElem? (i := 3) rfl)) (hw _ (List.mem_of_getElem? (i := 4) rfl)) (by decide) (argsL := [(.int ((p0 &&& (2147483647 : Int32)) % (9 : Int32)))]) (rm1 l Z a0 hw [] ((p0 &&& (2147483647 : Int32)) % (9 : Int32)) h0 w_READ w_CLUSTER_MONITOR w_CLUSTER_MANAGE w_DELETE_INDEX w_CREATE_INDEX w_WRITE w_MANAGE w_MONITOR w_VIEW_INDEX_METADATA S_READ S_WRITE S_CREATE_INDEX S_DELETE_INDEX S_MANAGE S_VIEW_INDEX_METADATA S_MONITOR S_CLUSTER_MONITOR S_CLUSTER_MANAGE) (rest := []) (by rw [hml]; rfl) pd__I_Lcom_example_indexwarden_indexwarden_Privilege_ rfl (W := 0) (Nat.le_of_eq rfl) (by decide) (by decide) (by decide) (by decide) rfl (hb hby at_9) (q := 12) rfl ?_
  intro T1 v1 L1 X1 hQ1
  obtain ⟨X1, e1, ev1⟩ := EKit.pureK X1 hQ1
  subst ev1
  show EKit.Ends p l e room_1 s m #[(.int p0)] below meth c room_1.cells room_1.slots (fun v h L => v = some (.int (1 : Int32)) ∧ Fr h0.size L) T1 (mkF m 12 #[.val (.int p0), .val (.int ((p0 &&& (2147483647 : Int32)) % (9 : Int32))), .unset, .unset] [(.ref (own_pick ((p0 &&& (2147483647 : Int32)) % (9 : Int32)) w_READ w_CLUSTER_MONITOR w_CLUSTER_MANAGE w_DELETE_INDEX w_CREATE_INDEX w_WRITE w_MANAGE w_MONITOR w_VIEW_INDEX_METADATA))])
  refine EKit.astoreN X1 hx rfl (l' := #[.val (.int p0), .val (.int ((p0 &&& (2147483647 : Int32)) % (9 : Int32))), .val (.ref (own_pick ((p0 &&& (2147483647 : Int32)) % (9 : Int32)) w_READ w_CLUSTER_MONITOR w_CLUSTER_MANAGE w_DELETE_INDEX w_CREATE_INDEX w_WRITE w_MANAGE w_MONITOR w_VIEW_INDEX_METADATA)), .unset]) rfl (hb hby at_12) (q := 13) rfl ?_
  refine EKit.iloadN X1 hx rfl (hb hby at_13) (q := 14) rfl ?_
  refine EKit.bipush X1 hx (v := (7 : Int32)) rfl (hb hby at_14) (q := 16) rfl ?_
  have J30_2 : ∀ (TJ2 : State) (XJ2 : Stand p l e room_1 s m #[(.int p0)] below meth c TJ2 [] 0 0) (eJ2 : TJ2.heap = h0) (j : Int32) (hj30 : j = if ((p0 &&& (2147483647 : Int32)) % (9 : Int32)) = 7 ∨ ((p0 &&& (2147483647 : Int32)) % (9 : Int32)) = 8 then 1 else 0), EKit.Ends p l e room_1 s m #[(.int p0)] below meth c room_1.cells room_1.slots (fun v h L => v = some (.int (1 : Int32)) ∧ Fr h0.size L) TJ2 (mkF m 30 #[.val (.int p0), .val (.int ((p0 &&& (2147483647 : Int32)) % (9 : Int32))), .val (.ref (own_pick ((p0 &&& (2147483647 : Int32)) % (9 : Int32)) w_READ w_CLUSTER_MONITOR w_CLUSTER_MANAGE w_DELETE_INDEX w_CREATE_INDEX w_WRITE w_MANAGE w_MONITOR w_VIEW_INDEX_METADATA)), .unset] [(.int j)]) := by
    intro TJ2 XJ2 eJ2 j hj30
    refine EKit.istoreN XJ2 hx (l' := #[.val (.int p0), .val (.int ((p0 &&& (2147483647 : Int32)) % (9 : Int32))), .val (.ref (own_pick ((p0 &&& (2147483647 : Int32)) % (9 : Int32)) w_READ w_CLUSTER_MONITOR w_CLUSTER_MANAGE w_DELETE_INDEX w_CREATE_INDEX w_WRITE w_MANAGE w_MONITOR w_VIEW_INDEX_METADATA)), .val (.int j)]) rfl (hb hby at_30) (q := 31) rfl ?_
    refine EKit.aloadN XJ2 hx rfl rfl (hb hby at_31) (q := 32) rfl ?_
    refine EKit.callV XJ2 hx hZ hown eJ2 (y := (⟨"com/example/indexwarden/indexwarden/Privilege", "isClusterLevel", "()Z"⟩ : MethodName)) (z := (⟨"com/example/indexwarden/indexwarden/Privilege", "isClusterLevel", "()Z"⟩ : MethodName)) (K := "com/example/indexwarden/indexwarden/Privilege") (hw _ (List.mem_of_getElem? (i := 8) rfl)) (hw _ (List.mem_of_getElem? (i := 9) rfl)) (notFace_of_selects (args := #[]) (mvT hZ (hw _ (List.mem_of_getElem? (i := 11) rfl)))) (hw _ (List.mem_of_getElem? (i := 11) rfl)) (hw _ (List.mem_of_getElem? (i := 10) rfl)) (hw _ (List.mem_of_getElem? (i := 6) rfl)) (hw _ (List.mem_of_getElem? (i := 12) rfl)) (by decide) (a := (own_pick ((p0 &&& (2147483647 : Int32)) % (9 : Int32)) w_READ w_CLUSTER_MONITOR w_CLUSTER_MANAGE w_DELETE_INDEX w_CREATE_INDEX w_WRITE w_MANAGE w_MONITOR w_VIEW_INDEX_METADATA)) (hexa) (argsL := []) (rm2 l Z a0 hw [] (own_pick ((p0 &&& (2147483647 : Int32)) % (9 : Int32)) w_READ w_CLUSTER_MONITOR w_CLUSTER_MANAGE w_DELETE_INDEX w_CREATE_INDEX w_WRITE w_MANAGE w_MONITOR w_VIEW_INDEX_METADATA) h0 w_CLUSTER_MONITOR w_CLUSTER_MANAGE S_CLUSTER_MONITOR S_CLUSTER_MANAGE) (rest := []) (by rw [hml]; rfl) pd___Z rfl (W := 0) (Nat.le_of_eq rfl) (by decide) (by decide) (by decide) (by decide) rfl (hb hby at_32) (q := 35) rfl ?_
    intro T3 v3 L3 X3 hQ3
    obtain ⟨X3, e3, ev3⟩ := EKit.pureK X3 hQ3
    subst ev3
    show EKit.Ends p l e room_1 s m #[(.int p0)] below meth c room_1.cells room_1.slots (fun v h L => v = some (.int (1 : Int32)) ∧ Fr h0.size L) T3 (mkF m 35 #[.val (.int p0), .val (.int ((p0 &&& (2147483647 : Int32)) % (9 : Int32))), .val (.ref (own_pick ((p0 &&& (2147483647 : Int32)) % (9 : Int32)) w_READ w_CLUSTER_MONITOR w_CLUSTER_MANAGE w_DELETE_INDEX w_CREATE_INDEX w_WRITE w_MANAGE w_MONITOR w_VIEW_INDEX_METADATA)), .val (.int j)] [(.int (own_two (own_pick ((p0 &&& (2147483647 : Int32)) % (9 : Int32)) w_READ w_CLUSTER_MONITOR w_CLUSTER_MANAGE w_DELETE_INDEX w_CREATE_INDEX w_WRITE w_MANAGE w_MONITOR w_VIEW_INDEX_METADATA) w_CLUSTER_MONITOR w_CLUSTER_MANAGE))])
    refine EKit.iloadN X3 hx rfl (hb hby at_35) (q := 36) rfl ?_
    have h36 : (own_two (own_pick ((p0 &&& (2147483647 : Int32)) % (9 : Int32)) w_READ w_CLUSTER_MONITOR w_CLUSTER_MANAGE w_DELETE_INDEX w_CREATE_INDEX w_WRITE w_MANAGE w_MONITOR w_VIEW_INDEX_METADATA) w_CLUSTER_MONITOR w_CLUSTER_MANAGE) = j := (own_ans O _ w_READ w_CLUSTER_MONITOR w_CLUSTER_MANAGE w_DELETE_INDEX w_CREATE_INDEX w_WRITE w_MANAGE w_MONITOR w_VIEW_INDEX_METADATA O_READ O_CLUSTER_MONITOR O_CLUSTER_MANAGE O_DELETE_INDEX O_CREATE_INDEX O_WRITE O_MANAGE O_MONITOR O_VIEW_INDEX_METADATA (own_r9 p0)).trans hj30.symm
    refine EKit.icmpNo X3 hx ((teq h36).2) (hb hby at_36) (q := 39) rfl ?_
    refine EKit.iconst X3 hx (v := (1 : Int32)) rfl (hb hby at_39) (q := 40) rfl ?_
    refine EKit.goto X3 hx (hb hby at_40) (by decide) (q := 44) (by decide) ?_
    exact EKit.retZ X3 hx hret (by simp) (hb hby at_44) (⟨rfl, Fr.nil _⟩) (by decide) (by decide)
  by_cases h16 : ((p0 &&& (2147483647 : Int32)) % (9 : Int32)) = (7 : Int32)
  · skip
    refine EKit.icmpYes X1 hx ((teq h16).1) (hb hby at_16) (by decide) (q := 25) (by decide) ?_
    refine EKit.iconst X1 hx (v := (1 : Int32)) rfl (hb hby at_25) (q := 26) rfl ?_
    refine EKit.goto X1 hx (hb hby at_26) (by decide) (q := 30) (by decide) ?_
    exact J30_2 T1 X1 e1 (1 : Int32) (by simp [h16])
  · skip
    refine EKit.icmpNo X1 hx ((feq h16).1) (hb hby at_16) (q := 19) rfl ?_
    refine EKit.iloadN X1 hx rfl (hb hby at_19) (q := 20) rfl ?_
    refine EKit.bipush X1 hx (v := (8 : Int32)) rfl (hb hby at_20) (q := 22) rfl ?_
    by_cases h22 : ((p0 &&& (2147483647 : Int32)) % (9 : Int32)) = (8 : Int32)
    · skip
      refine EKit.icmpNo X1 hx ((teq h22).2) (hb hby at_22) (q := 25) rfl ?_
      refine EKit.iconst X1 hx (v := (1 : Int32)) rfl (hb hby at_25) (q := 26) rfl ?_
      refine EKit.goto X1 hx (hb hby at_26) (by decide) (q := 30) (by decide) ?_
      exact J30_2 T1 X1 e1 (1 : Int32) (by simp [h16, h22])
    · skip
      refine EKit.icmpYes X1 hx ((feq h22).2) (hb hby at_22) (by decide) (q := 29) (by decide) ?_
      refine EKit.iconst X1 hx (v := (0 : Int32)) rfl (hb hby at_29) (q := 30) rfl ?_
      exact J30_2 T1 X1 e1 (0 : Int32) (by simp [h16, h22])
set_option maxRecDepth 65536 in
set_option maxHeartbeats 40000000 in
theorem comes_1 {Post : Tables → Env → Array Value → State → Outcome → State → Prop} (hpost : ∀ tb e args s v u, (limb_1_1.after args s (.returned v) u = true ∧ limb_1_2.after args s (.returned v) u = true ∧ True) → FrameEnd s (.returned v) u (Jvm.fieldLocs frame_1_writes args s ++ Jvm.arrayLocs frame_1_arrays args s ++ Jvm.staticLocs frame_1_statics s) 0 0 → Post tb e args s (.returned v) u) :
    ArmFor flags0 classFile x code maxLocals ret World_1 tables_1 room_1 Calls_1 rest_1 Pre_1 Post := by
  intro l hfl _ _ p e ha hc hk s m args below hf hA hF happ hP
  obtain ⟨hcalls, hrest, hpre⟩ := hP
  obtain ⟨-, -, -, hnamed, -, -, -, hat⟩ := (Spec.applies_iff hf).mp happ
  obtain ⟨hg, hn⟩ := and_e (Cond.before_iff.mp (show (Jvm.Cond.and given_1 narrow_1).before args s = true from hpre))
  obtain ⟨g4, g5⟩ := and_e hg
  obtain ⟨w0, rfl⟩ : ∃ w0 : Value, args = #[w0] := by
    have hs : args.size = 1 := by simpa [Cond.value, given_1] using g4
    obtain ⟨L⟩ := args
    match L, hs with
    | [w0], _ => exact ⟨w0, rfl⟩
  have hw := fun d (hd : d ∈ tables_1) => atoms_spec (ws := Jvm.Cond.code x code maxLocals ret :: tables_1) hat d (List.mem_cons_of_mem _ hd)
  obtain ⟨i0, ei0⟩ := is_v g5
  obtain rfl : w0 = (.int i0) := Option.some.inj ei0
  obtain ⟨n1, n2⟩ := and_e hn
  obtain ⟨n3, n4⟩ := and_e n2
  obtain ⟨n5, n6⟩ := and_e n4
  obtain ⟨n7, n8⟩ := and_e n6
  obtain ⟨n9, n10⟩ := and_e n8
  obtain ⟨n11, n12⟩ := and_e n10
  obtain ⟨n13, n14⟩ := and_e n12
  obtain ⟨n15, n16⟩ := and_e n14
  obtain ⟨n17, n18⟩ := and_e n16
  obtain ⟨n19, n20⟩ := and_e n18
  obtain ⟨n21, n22⟩ := and_e n20
  obtain ⟨n23, n24⟩ := and_e n22
  obtain ⟨n25, n26⟩ := and_e n24
  obtain ⟨n27, n28⟩ := and_e n26
  obtain ⟨n29, n30⟩ := and_e n28
  obtain ⟨n31, n32⟩ := and_e n30
  obtain ⟨n33, n34⟩ := and_e n32
  obtain ⟨w_READ, ev_READ⟩ := exa_v n1
  have E_READ : Exa s s.heap w_READ "com/example/indexwarden/indexwarden/Privilege" := Exa.start ev_READ n1
  have S_READ : Sta s s.heap "com/example/indexwarden/indexwarden/Privilege" "READ" "Lcom/example/indexwarden/indexwarden/Privilege;" (.ref w_READ) := Sta.start ev_READ (Or.inr ⟨(hw _ (List.mem_of_getElem? (i := 6) rfl)), (hw _ (List.mem_of_getElem? (i := 7) rfl))⟩)
  obtain ⟨w_CLUSTER_MONITOR, ev_CLUSTER_MONITOR⟩ := exa_v n3
  have E_CLUSTER_MONITOR : Exa s s.heap w_CLUSTER_MONITOR "com/example/indexwarden/indexwarden/Privilege" := Exa.start ev_CLUSTER_MONITOR n3
  have S_CLUSTER_MONITOR : Sta s s.heap "com/example/indexwarden/indexwarden/Privilege" "CLUSTER_MONITOR" "Lcom/example/indexwarden/indexwarden/Privilege;" (.ref w_CLUSTER_MONITOR) := Sta.start ev_CLUSTER_MONITOR (Or.inr ⟨(hw _ (List.mem_of_getElem? (i := 6) rfl)), (hw _ (List.mem_of_getElem? (i := 14) rfl))⟩)
  obtain ⟨w_CLUSTER_MANAGE, ev_CLUSTER_MANAGE⟩ := exa_v n9
  have E_CLUSTER_MANAGE : Exa s s.heap w_CLUSTER_MANAGE "com/example/indexwarden/indexwarden/Privilege" := Exa.start ev_CLUSTER_MANAGE n9
  have S_CLUSTER_MANAGE : Sta s s.heap "com/example/indexwarden/indexwarden/Privilege" "CLUSTER_MANAGE" "Lcom/example/indexwarden/indexwarden/Privilege;" (.ref w_CLUSTER_MANAGE) := Sta.start ev_CLUSTER_MANAGE (Or.inr ⟨(hw _ (List.mem_of_getElem? (i := 6) rfl)), (hw _ (List.mem_of_getElem? (i := 16) rfl))⟩)
  obtain ⟨w_DELETE_INDEX, ev_DELETE_INDEX⟩ := exa_v n13
  have E_DELETE_INDEX : Exa s s.heap w_DELETE_INDEX "com/example/indexwarden/indexwarden/Privilege" := Exa.start ev_DELETE_INDEX n13
  have S_DELETE_INDEX : Sta s s.heap "com/example/indexwarden/indexwarden/Privilege" "DELETE_INDEX" "Lcom/example/indexwarden/indexwarden/Privilege;" (.ref w_DELETE_INDEX) := Sta.start ev_DELETE_INDEX (Or.inr ⟨(hw _ (List.mem_of_getElem? (i := 6) rfl)), (hw _ (List.mem_of_getElem? (i := 18) rfl))⟩)
  obtain ⟨w_CREATE_INDEX, ev_CREATE_INDEX⟩ := exa_v n17
  have E_CREATE_INDEX : Exa s s.heap w_CREATE_INDEX "com/example/indexwarden/indexwarden/Privilege" := Exa.start ev_CREATE_INDEX n17
  have S_CREATE_INDEX : Sta s s.heap "com/example/indexwarden/indexwarden/Privilege" "CREATE_INDEX" "Lcom/example/indexwarden/indexwarden/Privilege;" (.ref w_CREATE_INDEX) := Sta.start ev_CREATE_INDEX (Or.inr ⟨(hw _ (List.mem_of_getElem? (i := 6) rfl)), (hw _ (List.mem_of_getElem? (i := 20) rfl))⟩)
  obtain ⟨w_WRITE, ev_WRITE⟩ := exa_v n21
  have E_WRITE : Exa s s.heap w_WRITE "com/example/indexwarden/indexwarden/Privilege" := Exa.start ev_WRITE n21
  have S_WRITE : Sta s s.heap "com/example/indexwarden/indexwarden/Privilege" "WRITE" "Lcom/example/indexwarden/indexwarden/Privilege;" (.ref w_WRITE) := Sta.start ev_WRITE (Or.inr ⟨(hw _ (List.mem_of_getElem? (i := 6) rfl)), (hw _ (List.mem_of_getElem? (i := 22) rfl))⟩)
  obtain ⟨w_MANAGE, ev_MANAGE⟩ := exa_v n25
  have E_MANAGE : Exa s s.heap w_MANAGE "com/example/indexwarden/indexwarden/Privilege" := Exa.start ev_MANAGE n25
  have S_MANAGE : Sta s s.heap "com/example/indexwarden/indexwarden/Privilege" "MANAGE" "Lcom/example/indexwarden/indexwarden/Privilege;" (.ref w_MANAGE) := Sta.start ev_MANAGE (Or.inr ⟨(hw _ (List.mem_of_getElem? (i := 6) rfl)), (hw _ (List.mem_of_getElem? (i := 25) rfl))⟩)
  obtain ⟨w_MONITOR, ev_MONITOR⟩ := exa_v n29
  have E_MONITOR : Exa s s.heap w_MONITOR "com/example/indexwarden/indexwarden/Privilege" := Exa.start ev_MONITOR n29
  have S_MONITOR : Sta s s.heap "com/example/indexwarden/indexwarden/Privilege" "MONITOR" "Lcom/example/indexwarden/indexwarden/Privilege;" (.ref w_MONITOR) := Sta.start ev_MONITOR (Or.inr ⟨(hw _ (List.mem_of_getElem? (i := 6) rfl)), (hw _ (List.mem_of_getElem? (i := 28) rfl))⟩)
  obtain ⟨w_VIEW_INDEX_METADATA, ev_VIEW_INDEX_METADATA⟩ := exa_v n33
  have E_VIEW_INDEX_METADATA : Exa s s.heap w_VIEW_INDEX_METADATA "com/example/indexwarden/indexwarden/Privilege" := Exa.start ev_VIEW_INDEX_METADATA n33
  have S_VIEW_INDEX_METADATA : Sta s s.heap "com/example/indexwarden/indexwarden/Privilege" "VIEW_INDEX_METADATA" "Lcom/example/indexwarden/indexwarden/Privilege;" (.ref w_VIEW_INDEX_METADATA) := Sta.start ev_VIEW_INDEX_METADATA (Or.inr ⟨(hw _ (List.mem_of_getElem? (i := 6) rfl)), (hw _ (List.mem_of_getElem? (i := 30) rfl))⟩)
  have O_READ : s.fieldOf? w_READ "java/lang/Enum" "ordinal" "I" = some (.int (0 : Int32)) := (fld_at ev_READ).symm.trans (own_eqI n5)
  have O_CLUSTER_MONITOR : s.fieldOf? w_CLUSTER_MONITOR "java/lang/Enum" "ordinal" "I" = some (.int (7 : Int32)) := (fld_at ev_CLUSTER_MONITOR).symm.trans (own_eqI n7)
  have O_CLUSTER_MANAGE : s.fieldOf? w_CLUSTER_MANAGE "java/lang/Enum" "ordinal" "I" = some (.int (8 : Int32)) := (fld_at ev_CLUSTER_MANAGE).symm.trans (own_eqI n11)
  have O_DELETE_INDEX : s.fieldOf? w_DELETE_INDEX "java/lang/Enum" "ordinal" "I" = some (.int (3 : Int32)) := (fld_at ev_DELETE_INDEX).symm.trans (own_eqI n15)
  have O_CREATE_INDEX : s.fieldOf? w_CREATE_INDEX "java/lang/Enum" "ordinal" "I" = some (.int (2 : Int32)) := (fld_at ev_CREATE_INDEX).symm.trans (own_eqI n19)
  have O_WRITE : s.fieldOf? w_WRITE "java/lang/Enum" "ordinal" "I" = some (.int (1 : Int32)) := (fld_at ev_WRITE).symm.trans (own_eqI n23)
  have O_MANAGE : s.fieldOf? w_MANAGE "java/lang/Enum" "ordinal" "I" = some (.int (4 : Int32)) := (fld_at ev_MANAGE).symm.trans (own_eqI n27)
  have O_MONITOR : s.fieldOf? w_MONITOR "java/lang/Enum" "ordinal" "I" = some (.int (6 : Int32)) := (fld_at ev_MONITOR).symm.trans (own_eqI n31)
  have O_VIEW_INDEX_METADATA : s.fieldOf? w_VIEW_INDEX_METADATA "java/lang/Enum" "ordinal" "I" = some (.int (5 : Int32)) := (fld_at ev_VIEW_INDEX_METADATA).symm.trans (own_eqI n34)
  obtain ⟨n, o, h1, h2, h3, _, L, rfl, ⟨rfl, N⟩, hq⟩ := rm0 l s _ hw tables_1 i0 s.heap w_READ w_CLUSTER_MONITOR w_CLUSTER_MANAGE w_DELETE_INDEX w_CREATE_INDEX w_WRITE w_MANAGE w_MONITOR w_VIEW_INDEX_METADATA S_READ S_CLUSTER_MONITOR S_CLUSTER_MANAGE S_DELETE_INDEX S_CREATE_INDEX S_WRITE S_MANAGE S_MONITOR S_VIEW_INDEX_METADATA E_READ E_CLUSTER_MONITOR E_CLUSTER_MANAGE E_DELETE_INDEX E_CREATE_INDEX E_WRITE E_MANAGE E_MONITOR E_VIEW_INDEX_METADATA (fun a => s.fieldOf? a "java/lang/Enum" "ordinal" "I") O_READ O_CLUSTER_MONITOR O_CLUSTER_MANAGE O_DELETE_INDEX O_CREATE_INDEX O_WRITE O_MANAGE O_MONITOR O_VIEW_INDEX_METADATA p e ha hc hk s m _ below hf ((Spec.applies_iff_loose hf).mp happ).1 ⟨rfl, State.Warmed39.refl s, rfl⟩ trivial
  refine ⟨n, _, h1, h2, h3, hpost _ _ _ _ _ _ ⟨Cond.after_iff.mpr rfl, Cond.after_iff.mpr (eq_i res_at (Term.int_eval (1)) rfl), trivial⟩ ⟨hq.1, hq.2.1, (hq.2.2.sift fun y hy => Or.inr (N y hy)).mono (by decide) (by decide)⟩⟩
theorem main_1_1 : Claimed_1_1 := comes_1 fun _ _ _ _ _ _ h hF => ⟨h.1, hF⟩
theorem main_1_2 : Claimed_1_2 := comes_1 fun _ _ _ _ _ _ h hF => ⟨h.2.1, hF⟩
end Jvm.Pilot.@@N@@
namespace Jvm.Pilot.@@N@@
open Jvm Jvm.ClassFile Sem Op Lib Jvm.Free Jvm.Stand Jvm.Pilot.@@N@@.Jvm.D
/-! MADE BY PROGRAM (witnessworld.py) out of the Statement's table words and the real class files: 12 classes; the members and pool entries that the words name. The judged class is class 1, her method 1. -/
namespace start1
open Jvm.ClassFile
def u (s : String) : CpInfo := .utf8 (stringToUtf16 s)
/-- a pool by its gaps: so many unusable entries, then the entry; so many at the end -/
def gap : Nat → List CpInfo → List CpInfo
  | 0, r => r
  | n + 1, r => .unusable :: gap n r
def poolList (es : List (Nat × CpInfo)) (last : Nat) : List CpInfo := es.foldr (fun e r => gap e.1 (e.2 :: r)) (gap last [])
def pool (es : List (Nat × CpInfo)) (last : Nat) : Array CpInfo := ⟨poolList es last⟩
def fileOf (pool : Array CpInfo) (this : Nat) (attrs : Array Attribute := #[]) (ms : Array MethodInfo := #[]) (fl : Nat := 33) (sup : Nat := 0) (ifs : Array Nat := #[]) (fds : Array FieldInfo := #[]) : ClassFile where
  minorVersion := 0
  majorVersion := 65
  constantPool := pool
  accessFlags := fl
  thisClass := this
  superClass := sup
  interfaces := ifs
  fields := fds
  methods := ms
  attributes := attrs
def plain (name : String) (sup : Option ClassId) : Class where
  name := name
  kind := .ordinary
  loader := none
  accessFlags := 33
  super := sup
  interfaces := #[]
  cf := none
  fields := #[]
  methods := #[]
  instanceTypes := #[]
  staticTypes := #[]
  resolved := #[]
  callSites := []
  init := .initialized
  statics := none
  mirror := none

def pool0 : Array CpInfo := pool [(5, u "<init>"), (0, u "()V"), (1, .class_ 10), (1, u "java/lang/Object")] 113

def k0m0 : Method := { name := "<init>", desc := "()V", sig := { parameters := [], returnType := none }, accessFlags := 1, code := none }
/-- java/lang/Object -/
def k0 : Class := { plain "java/lang/Object" none with
  accessFlags := 33
  interfaces := #[]
  cf := some (fileOf pool0 8 #[] #[{ accessFlags := 1, nameIndex := 5, descriptorIndex := 6, attributes := #[] }] 33 0 #[] #[])
  fields := #[]
  methods := #[k0m0]
  instanceTypes := #[]
  staticTypes := #[]
  resolved := Array.replicate 124 none
  statics := none }

def pool1 : Array CpInfo := pool [(2, .class_ 4), (1, u "java/lang/Object"), (0, u "<init>"), (0, u "()V"), (0, .integer 2147483647), (0, .methodref 9 10), (0, .class_ 11), (0, .nameAndType 12 13), (0, u "com/example/indexwarden/indexwarden/PrivilegeIsClusterLevelPinLaw"), (0, u "pick"), (0, u "(I)Lcom/example/indexwarden/indexwarden/Privilege;"), (0, .methodref 15 16), (0, .class_ 17), (0, .nameAndType 18 19), (0, u "com/example/indexwarden/indexwarden/Privilege"), (0, u "isClusterLevel"), (0, u "()Z"), (0, .fieldref 15 21), (0, .nameAndType 22 23), (0, u "READ"), (0, u "Lcom/example/indexwarden/indexwarden/Privilege;"), (0, .fieldref 15 25), (0, .nameAndType 26 23), (0, u "WRITE"), (0, .fieldref 15 28), (0, .nameAndType 29 23), (0, u "CREATE_INDEX"), (0, .fieldref 15 31), (0, .nameAndType 32 23), (0, u "DELETE_INDEX"), (0, .fieldref 15 34), (0, .nameAndType 35 23), (0, u "MANAGE"), (0, .fieldref 15 37), (0, .nameAndType 38 23), (0, u "VIEW_INDEX_METADATA"), (0, .fieldref 15 40), (0, .nameAndType 41 23), (0, u "MONITOR"), (0, .fieldref 15 43), (0, .nameAndType 44 23), (0, u "CLUSTER_MONITOR"), (0, .fieldref 15 46), (0, .nameAndType 47 23), (0, u "CLUSTER_MANAGE"), (2, u "law"), (0, u "(I)Z")] 3

def k1m0 : Method := { name := "<init>", desc := "()V", sig := { parameters := [], returnType := none }, accessFlags := 1, code := none }
def k1c1 : Code := { maxStack := 2, maxLocals := 4, code := code, exceptionTable := #[], attributes := #[] }
def k1m1 : Method := { name := "law", desc := "(I)Z", sig := { parameters := [.int], returnType := some .boolean }, accessFlags := 9, code := some k1c1 }
def k1c2 : Code := { maxStack := 2, maxLocals := 1, code := method_3_code, exceptionTable := #[], attributes := #[] }
def k1m2 : Method := { name := "pick", desc := "(I)Lcom/example/indexwarden/indexwarden/Privilege;", sig := { parameters := [.int], returnType := some (.object "com/example/indexwarden/indexwarden/Privilege") }, accessFlags := 10, code := some k1c2 }
/-- com/example/indexwarden/indexwarden/PrivilegeIsClusterLevelPinLaw -/
def k1 : Class := { plain "com/example/indexwarden/indexwarden/PrivilegeIsClusterLevelPinLaw" (some 0) with
  accessFlags := 49
  interfaces := #[]
  cf := some (fileOf pool1 9 #[] #[{ accessFlags := 1, nameIndex := 5, descriptorIndex := 6, attributes := #[] }, { accessFlags := 9, nameIndex := 50, descriptorIndex := 51, attributes := #[] }, { accessFlags := 10, nameIndex := 12, descriptorIndex := 13, attributes := #[] }] 49 2 #[] #[])
  fields := #[]
  methods := #[k1m0, k1m1, k1m2]
  instanceTypes := #[]
  staticTypes := #[]
  resolved := Array.replicate 55 none
  statics := none }

def pool2 : Array CpInfo := pool [(1, .class_ 2), (0, u "java/lang/constant/Constable"), (0, .class_ 4), (0, u "java/lang/Object")] 6

/-- java/lang/constant/Constable -/
def k2 : Class := { plain "java/lang/constant/Constable" (some 0) with
  accessFlags := 1537
  interfaces := #[]
  cf := some (fileOf pool2 1 #[] #[] 1537 3 #[] #[])
  fields := #[]
  methods := #[]
  instanceTypes := #[]
  staticTypes := #[]
  resolved := Array.replicate 11 none
  statics := none }

def pool3 : Array CpInfo := pool [(1, .class_ 2), (0, u "java/lang/Comparable"), (0, .class_ 4), (0, u "java/lang/Object")] 7

/-- java/lang/Comparable -/
def k3 : Class := { plain "java/lang/Comparable" (some 0) with
  accessFlags := 1537
  interfaces := #[]
  cf := some (fileOf pool3 1 #[] #[] 1537 3 #[] #[])
  fields := #[]
  methods := #[]
  instanceTypes := #[]
  staticTypes := #[]
  resolved := Array.replicate 12 none
  statics := none }

def pool4 : Array CpInfo := pool [(1, .class_ 2), (0, u "java/io/Serializable"), (0, .class_ 4), (0, u "java/lang/Object")] 2

/-- java/io/Serializable -/
def k4 : Class := { plain "java/io/Serializable" (some 0) with
  accessFlags := 1537
  interfaces := #[]
  cf := some (fileOf pool4 1 #[] #[] 1537 3 #[] #[])
  fields := #[]
  methods := #[]
  instanceTypes := #[]
  staticTypes := #[]
  resolved := Array.replicate 7 none
  statics := none }

def pool5 : Array CpInfo := pool [(2, .class_ 4), (1, u "java/lang/Enum"), (0, u "name"), (0, u "Ljava/lang/String;"), (2, u "ordinal"), (0, u "I"), (1, .class_ 14), (1, u "java/lang/Object"), (4, u "hash"), (86, .class_ 108), (1, u "java/lang/Enum$EnumDesc"), (2, .class_ 112), (0, u "java/lang/constant/Constable"), (0, .class_ 114), (0, u "java/lang/Comparable"), (0, .class_ 116), (0, u "java/io/Serializable")] 87

/-- java/lang/Enum -/
def k5 : Class := { plain "java/lang/Enum" (some 0) with
  accessFlags := 1057
  interfaces := #[2, 3, 4]
  cf := some (fileOf pool5 2 #[.nestMembers #[106]] #[] 1057 12 #[111, 113, 115] #[{ accessFlags := 18, nameIndex := 5, descriptorIndex := 6, attributes := #[] }, { accessFlags := 18, nameIndex := 9, descriptorIndex := 10, attributes := #[] }, { accessFlags := 2, nameIndex := 19, descriptorIndex := 10, attributes := #[] }])
  fields := #[{ name := "name", type := (.object "java/lang/String"), accessFlags := 18, slot := 0, constantValue := 0 }, { name := "ordinal", type := .int, accessFlags := 18, slot := 1, constantValue := 0 }, { name := "hash", type := .int, accessFlags := 2, slot := 2, constantValue := 0 }]
  methods := #[]
  instanceTypes := #[(.object "java/lang/String"), .int, .int]
  staticTypes := #[]
  resolved := Array.replicate 204 none
  statics := none }

def pool6 : Array CpInfo := pool [(1, .class_ 2), (0, u "com/example/indexwarden/indexwarden/Privilege"), (2, u "READ"), (0, u "Lcom/example/indexwarden/indexwarden/Privilege;"), (2, u "WRITE"), (2, u "CREATE_INDEX"), (2, u "DELETE_INDEX"), (2, u "MANAGE"), (2, u "VIEW_INDEX_METADATA"), (2, u "MONITOR"), (0, .fieldref 1 26), (0, .nameAndType 27 6), (0, u "CLUSTER_MONITOR"), (0, .fieldref 1 29), (0, .nameAndType 30 6), (0, u "CLUSTER_MANAGE"), (2, u "$VALUES"), (0, u "[Lcom/example/indexwarden/indexwarden/Privilege;"), (6, .class_ 43), (1, u "java/lang/Enum"), (49, u "()Z"), (73, u "GRANTS"), (0, u "Ljava/util/Map;"), (38, u "isClusterLevel")] 12

def k6c0 : Code := { maxStack := 2, maxLocals := 1, code := prog_51_method_8_code, exceptionTable := #[], attributes := #[] }
def k6m0 : Method := { name := "isClusterLevel", desc := "()Z", sig := { parameters := [], returnType := some .boolean }, accessFlags := 0, code := some k6c0 }
/-- com/example/indexwarden/indexwarden/Privilege -/
def k6 : Class := { plain "com/example/indexwarden/indexwarden/Privilege" (some 5) with
  accessFlags := 16432
  interfaces := #[]
  cf := some (fileOf pool6 1 #[] #[{ accessFlags := 0, nameIndex := 207, descriptorIndex := 93, attributes := #[] }] 16432 41 #[] #[{ accessFlags := 16409, nameIndex := 5, descriptorIndex := 6, attributes := #[] }, { accessFlags := 16409, nameIndex := 9, descriptorIndex := 6, attributes := #[] }, { accessFlags := 16409, nameIndex := 12, descriptorIndex := 6, attributes := #[] }, { accessFlags := 16409, nameIndex := 15, descriptorIndex := 6, attributes := #[] }, { accessFlags := 16409, nameIndex := 18, descriptorIndex := 6, attributes := #[] }, { accessFlags := 16409, nameIndex := 21, descriptorIndex := 6, attributes := #[] }, { accessFlags := 16409, nameIndex := 24, descriptorIndex := 6, attributes := #[] }, { accessFlags := 16409, nameIndex := 27, descriptorIndex := 6, attributes := #[] }, { accessFlags := 16409, nameIndex := 30, descriptorIndex := 6, attributes := #[] }, { accessFlags := 26, nameIndex := 167, descriptorIndex := 168, attributes := #[] }, { accessFlags := 4122, nameIndex := 33, descriptorIndex := 34, attributes := #[] }])
  fields := #[{ name := "READ", type := (.object "com/example/indexwarden/indexwarden/Privilege"), accessFlags := 16409, slot := 0, constantValue := 0 }, { name := "WRITE", type := (.object "com/example/indexwarden/indexwarden/Privilege"), accessFlags := 16409, slot := 1, constantValue := 0 }, { name := "CREATE_INDEX", type := (.object "com/example/indexwarden/indexwarden/Privilege"), accessFlags := 16409, slot := 2, constantValue := 0 }, { name := "DELETE_INDEX", type := (.object "com/example/indexwarden/indexwarden/Privilege"), accessFlags := 16409, slot := 3, constantValue := 0 }, { name := "MANAGE", type := (.object "com/example/indexwarden/indexwarden/Privilege"), accessFlags := 16409, slot := 4, constantValue := 0 }, { name := "VIEW_INDEX_METADATA", type := (.object "com/example/indexwarden/indexwarden/Privilege"), accessFlags := 16409, slot := 5, constantValue := 0 }, { name := "MONITOR", type := (.object "com/example/indexwarden/indexwarden/Privilege"), accessFlags := 16409, slot := 6, constantValue := 0 }, { name := "CLUSTER_MONITOR", type := (.object "com/example/indexwarden/indexwarden/Privilege"), accessFlags := 16409, slot := 7, constantValue := 0 }, { name := "CLUSTER_MANAGE", type := (.object "com/example/indexwarden/indexwarden/Privilege"), accessFlags := 16409, slot := 8, constantValue := 0 }, { name := "GRANTS", type := (.object "java/util/Map"), accessFlags := 26, slot := 9, constantValue := 0 }, { name := "$VALUES", type := (.array (.object "com/example/indexwarden/indexwarden/Privilege")), accessFlags := 4122, slot := 10, constantValue := 0 }]
  methods := #[k6m0]
  instanceTypes := #[(.object "java/lang/String"), .int, .int]
  staticTypes := #[(.object "com/example/indexwarden/indexwarden/Privilege"), (.object "com/example/indexwarden/indexwarden/Privilege"), (.object "com/example/indexwarden/indexwarden/Privilege"), (.object "com/example/indexwarden/indexwarden/Privilege"), (.object "com/example/indexwarden/indexwarden/Privilege"), (.object "com/example/indexwarden/indexwarden/Privilege"), (.object "com/example/indexwarden/indexwarden/Privilege"), (.object "com/example/indexwarden/indexwarden/Privilege"), (.object "com/example/indexwarden/indexwarden/Privilege"), (.object "java/util/Map"), (.array (.object "com/example/indexwarden/indexwarden/Privilege"))]
  resolved := Array.replicate 220 none
  statics := some 0 }

def pool7 : Array CpInfo := pool [(1, u "java/lang/Cloneable"), (0, .class_ 1), (0, u "java/lang/Object"), (0, .class_ 3)] 3

/-- java/lang/Cloneable -/
def k7 : Class := { plain "java/lang/Cloneable" (some 0) with
  accessFlags := 1537
  interfaces := #[]
  cf := some (fileOf pool7 2 #[] #[] 1537 4 #[] #[])
  fields := #[]
  methods := #[]
  instanceTypes := #[]
  staticTypes := #[]
  resolved := Array.replicate 8 none
  statics := none }

/-- the primitive byte -/
def k8 : Class := { plain "byte" none with kind := .primitive 'B', accessFlags := 0x411 }
/-- [B -/
def k9 : Class := { plain "[B" (some 0) with kind := .array 8 .byte, interfaces := #[7, 4], accessFlags := 1041 }

/-- the primitive int -/
def k10 : Class := { plain "int" none with kind := .primitive 'I', accessFlags := 0x411 }
/-- [I -/
def k11 : Class := { plain "[I" (some 0) with kind := .array 10 .int, interfaces := #[7, 4], accessFlags := 1041 }

def heap : Heap := #[{ cls := 6, slots := #[.ref 1, .ref 6, .ref 5, .ref 4, .ref 7, .ref 9, .ref 8, .ref 2, .ref 3, .null, .null], vm := .statics 6 },
  { cls := 6, slots := #[.null, .int 0, .int 0], vm := .none },
  { cls := 6, slots := #[.null, .int 7, .int 0], vm := .none },
  { cls := 6, slots := #[.null, .int 8, .int 0], vm := .none },
  { cls := 6, slots := #[.null, .int 3, .int 0], vm := .none },
  { cls := 6, slots := #[.null, .int 2, .int 0], vm := .none },
  { cls := 6, slots := #[.null, .int 1, .int 0], vm := .none },
  { cls := 6, slots := #[.null, .int 4, .int 0], vm := .none },
  { cls := 6, slots := #[.null, .int 6, .int 0], vm := .none },
  { cls := 6, slots := #[.null, .int 5, .int 0], vm := .none }]
def classes : Array Class := #[k0, k1, k2, k3, k4, k5, k6, k7, k8, k9, k10, k11]
def interned : List (Array UInt16 × Addr) := []
def slotsUsed : Nat := 38
def theMethod : MethodId := ⟨1, 1⟩
def args0 : Array Value := #[.int 5]
def aboutOver (below : List Frame) : State where
  vm := { classes := classes, interned := interned.toArray }
  heap := heap
  slotsUsed := slotsUsed
  threads := #[{ frames := .invoking theMethod args0 :: below }]
def below0 : List Frame := [.native { method := ⟨0, 0⟩, args := #[] }]
def about1 : State := aboutOver below0
def p0 : Program := .bare "" "" ""
def e0 : Env := launch0.env 0 0 0
theorem w_frames : about1.frames = Frame.invoking theMethod args0 :: below0 := rfl
set_option maxRecDepth 65536 in
theorem w_args : argsFit about1.vm theMethod args0 = true := by decide +kernel
set_option maxRecDepth 65536 in
theorem w_heap : heapFits about1 = true := by decide +kernel
set_option maxRecDepth 65536 in
theorem w_runnable : about1.curStatus? = some .runnable := by decide +kernel
set_option maxRecDepth 65536 in
theorem w_alone : about1.alone = true := by decide +kernel
set_option maxRecDepth 65536 in
theorem w_named : about1.methodNamed? x = some theMethod := by decide +kernel
set_option maxRecDepth 65536 in
theorem w_hears : about1.hears theMethod below0 = true := by decide +kernel
set_option maxRecDepth 65536 in
theorem w_ripe : about1.ripe theMethod args0 below0 = true := by decide +kernel
theorem w_running : about1.status = .running := rfl
set_option maxRecDepth 65536 in
theorem w_room : about1.hasRoom e0.platform room_1 = true :=
  launch0.hasRoom_least _ room_1 (by decide +kernel) (by decide +kernel) (by decide +kernel) (by decide +kernel) (by decide +kernel) (by decide +kernel)
theorem allAtoms_all (ts : List Jvm.Cond) (a : Array Jvm.Value) (st : Jvm.State) : (allAtoms ts).before a st = ts.all (fun c => c.before a st) := by
  induction ts with
  | nil => rfl
  | cons c t ih =>
    show (Jvm.Cond.and c (allAtoms t)).before a st = _
    rw [Jvm.Cond.before_and, ih, List.all_cons]
def words1 : List Jvm.Cond := Jvm.Cond.code x code maxLocals ret :: tables_1
/-- a 'code' word, met by the world's own term for the bytes: nothing is compared byte by byte -/
theorem code_word {y : MethodName} {bytes : ByteArray} {mx : Nat} {rt : Option FieldType} {a : Array Value} {s : State} {m : MethodId} {meth : Method} {c : Code} (h1 : s.methodNamed? y = some m) (h2 : s.vm.method? m = some meth) (h3 : meth.code = some c) (h4 : c.code = bytes)
    (h5 : (c.maxLocals == mx && c.exceptionTable.isEmpty && decide (c.maxStack ≤ mostOperands) && decide (meth.sig.returnType = rt) && !meth.locks && decide (parseMethodDescriptor y.desc = some meth.sig)) = true) : (Jvm.Cond.code y bytes mx rt).before a s = true := by
  simp only [Bool.and_eq_true, beq_iff_eq, Bool.not_eq_true', decide_eq_true_eq] at h5
  obtain ⟨⟨⟨⟨⟨g1, g2⟩, g3⟩, g4⟩, g5⟩, g6⟩ := h5
  simp [Cond.before, Cond.holds, Cond.value, h1, h2, h3, h4, g1, g2, g3, g4, g5, g6]
def isCode : Jvm.Cond → Bool
  | .code _ _ _ _ => true
  | _ => false
theorem all_split {L : List Jvm.Cond} {P : Jvm.Cond → Bool} (h1 : L.all (fun c => isCode c || P c) = true) (h2 : ∀ c ∈ L.filter isCode, P c = true) : L.all P = true := by
  refine List.all_eq_true.mpr fun c hc => ?_
  have h := List.all_eq_true.mp h1 c hc
  rcases Bool.eq_false_or_eq_true (isCode c) with hi | hi
  · exact h2 c (List.mem_filter.mpr ⟨hc, hi⟩)
  · simpa [hi] using h
set_option maxRecDepth 65536 in
theorem w_c0 : (Jvm.Cond.code x code maxLocals ret).before args0 about1 = true := code_word (m := ⟨1, 1⟩) (meth := k1m1) (c := k1c1) (by decide +kernel) rfl rfl rfl (by decide +kernel)
set_option maxRecDepth 65536 in
theorem w_c1 : (Jvm.Cond.code ({ cls := "com/example/indexwarden/indexwarden/PrivilegeIsClusterLevelPinLaw", name := "pick", desc := "(I)Lcom/example/indexwarden/indexwarden/Privilege;" } : Jvm.MethodName) method_3_code (1 : Nat) (Option.some (Jvm.ClassFile.FieldType.object "com/example/indexwarden/indexwarden/Privilege"))).before args0 about1 = true := code_word (m := ⟨1, 2⟩) (meth := k1m2) (c := k1c2) (by decide +kernel) rfl rfl rfl (by decide +kernel)
set_option maxRecDepth 65536 in
theorem w_c2 : (Jvm.Cond.code ({ cls := "com/example/indexwarden/indexwarden/Privilege", name := "isClusterLevel", desc := "()Z" } : Jvm.MethodName) prog_51_method_8_code (1 : Nat) (Option.some Jvm.ClassFile.FieldType.boolean)).before args0 about1 = true := code_word (m := ⟨6, 0⟩) (meth := k6m0) (c := k6c0) (by decide +kernel) rfl rfl rfl (by decide +kernel)
def codes1 : List Jvm.Cond := [Jvm.Cond.code x code maxLocals ret, Jvm.Cond.code ({ cls := "com/example/indexwarden/indexwarden/PrivilegeIsClusterLevelPinLaw", name := "pick", desc := "(I)Lcom/example/indexwarden/indexwarden/Privilege;" } : Jvm.MethodName) method_3_code (1 : Nat) (Option.some (Jvm.ClassFile.FieldType.object "com/example/indexwarden/indexwarden/Privilege")), Jvm.Cond.code ({ cls := "com/example/indexwarden/indexwarden/Privilege", name := "isClusterLevel", desc := "()Z" } : Jvm.MethodName) prog_51_method_8_code (1 : Nat) (Option.some Jvm.ClassFile.FieldType.boolean)]
set_option maxRecDepth 65536 in
theorem codes_eq : words1.filter isCode = codes1 := rfl
theorem w_codes : ∀ c ∈ words1.filter isCode, c.before args0 about1 = true := by
  rw [codes_eq]
  intro c hc
  simp only [codes1, List.mem_cons, List.not_mem_nil, or_false] at hc
  rcases hc with rfl | rfl | rfl
  · exact w_c0
  · exact w_c1
  · exact w_c2
set_option maxRecDepth 65536 in
theorem w_t1 : (words1.take 24).all (fun c => isCode c || c.before args0 about1) = true := by decide +kernel
set_option maxRecDepth 65536 in
theorem w_t2 : (words1.drop 24).all (fun c => isCode c || c.before args0 about1) = true := by decide +kernel
theorem w_tables : (allAtoms (Jvm.Cond.code x code maxLocals ret :: tables_1)).before args0 about1 = true := by
  rw [allAtoms_all]
  show words1.all (fun c => c.before args0 about1) = true
  refine all_split ?_ w_codes
  rw [← List.take_append_drop 24 words1, List.all_append, w_t1, w_t2]
  rfl
set_option maxRecDepth 65536 in
theorem w_case : (Jvm.Cond.and given_1 narrow_1).before args0 about1 = true := by decide +kernel
theorem w_applies : (headSpec (Jvm.Cond.code x code maxLocals ret :: tables_1) room_1).applies x e0.platform about1 = true :=
  (Spec.applies_iff w_frames).mpr ⟨w_running, w_runnable, w_alone, w_named, w_hears, w_ripe, w_room, w_tables⟩
theorem atStart : AtStart classFile x code maxLocals ret World_1 tables_1 room_1 Calls_1 rest_1 Pre_1 launch0 p0 e0 about1 theMethod args0 below0 :=
  ⟨lists_1, trivial, launch0.admits_env _ _ _, launch0.least_env, fairChoices_fair.cas, fairChoices_fair.clock, w_frames, w_args, w_heap, w_applies, trivial, trivial, w_case⟩
end start1
theorem witness_1 : WitnessClaimed_1 := ⟨start1.p0, start1.e0, start1.about1, start1.theMethod, start1.args0, start1.below0, start1.atStart⟩
end Jvm.Pilot.@@N@@
