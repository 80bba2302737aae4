import JvmDerived
import JvmDerived.Pilot.@@N@@Statement
import JvmDerived.Pilot.@@N@@Code
set_option linter.unusedVariables false
set_option linter.unusedSimpArgs false
namespace Jvm.EKit
open Sem ClassFile Op Lib Jvm.Stand Jvm.Free Jvm.LawKit Jvm.RoadKit
/-- from the frame F at T the body comes to a return that answers Q -/
def Ends (p : Program) (l : Launch) (e : Env) (R : Room) (s : State) (m : MethodId) (args : Array Value) (below : List Frame) (meth : Method) (c : Code) (C S : Nat) (Q : Option Value → Heap → List Loc → Prop) (T : State) (F : JFrame) : Prop :=
  ∃ (T' : State) (locs : List Loc) (cells slots : Nat) (v : Option Value), Stand p l e R s m args below meth c T' locs cells slots ∧ Q v T'.heap locs ∧ cells ≤ C ∧ slots ≤ S ∧ (meth.sig.returnType = none → v = none) ∧
    ∀ fs, (∀ (f : JFrame) (acts : List Action), f.method = m → f.locked = none → f.entered = [] → (doReturn e (T'.setTop f) acts v).1 = T'.setFrames fs) → Steps p.tables e below (T.setTop F) (T'.setFrames fs)

/-- the contract of a body -/
def Pays (l : Launch) (Z : State) (y : MethodName) (bytes : ByteArray) (maxL : Nat) (ret : Option FieldType) (ws : List Jvm.Cond) (rm : Room) (as' : Array Value) (h : Heap) (Q : Option Value → Heap → List Loc → Prop) : Prop :=
  MetFree l y (head1 (Jvm.Cond.code y bytes maxL ret :: ws) rm) (fun a U => a = as' ∧ Z.Warmed39 U.vm ∧ U.heap = h) (fun _ _ _ _ _ => True) (fun _ U o U' => ∃ v L, o = .returned v ∧ Q v U'.heap L ∧ FrameEnd U o U' L rm.cells rm.slots)
/-- it returns V and writes nothing -/
def RetQ (V : Option Value) (h : Heap) : Option Value → Heap → List Loc → Prop := fun v h' L => v = V ∧ h' = h ∧ L = []
section
variable {p : Program} {l : Launch} {e : Env} {R : Room} {s : State} {m : MethodId} {args : Array Value} {below : List Frame} {meth : Method} {c : Code} {T : State} {locs : List Loc} {cells slots : Nat} {C S : Nat} {Q : Option Value → Heap → List Loc → Prop} {pc q : Nat} {Ls : Array Slot} {st rest : List Value}
theorem step {T1 : State} {F F1 : JFrame} (h : ∀ t, Steps p.tables e below (T1.setTop F1) t → Steps p.tables e below (T.setTop F) t) (k : Ends p l e R s m args below meth c C S Q T1 F1) : Ends p l e R s m args below meth c C S Q T F := by
  obtain ⟨T', locs, cells, slots, v, h1, h2, h3, h4, h5, h6⟩ := k
  exact ⟨T', locs, cells, slots, v, h1, h2, h3, h4, h5, fun fs hl => h _ (h6 fs hl)⟩

theorem pays {Z : State} {y : MethodName} {bytes : ByteArray} {maxL : Nat} {ret : Option FieldType} {ws : List Jvm.Cond} {rm : Room} {as' : Array Value} {h : Heap} (hpl : plainFor y = true) {F0 : MethodId → JFrame} (hF : ∀ m, entryFrame m as' maxL = F0 m)
    (k : ∀ (p : Program) (e : Env) (s : State) (m : MethodId) (below : List Frame) (meth : Method) (c : Code) (s₁ : State), p.tables.exec = Jvm.exec → c.code = bytes → c.maxLocals = maxL → Z.Warmed39 s.vm → s.vm.findClass y.cls = some m.cls → meth.name = y.name → meth.sig.returnType = ret → Stand p l e rm s m as' below meth c s₁ [] 0 0 → s₁.heap = h → s.heap = h →
      Ends p l e rm s m as' below meth c rm.cells rm.slots Q s₁ (F0 m)) : Pays l Z y bytes maxL ret ws rm as' h Q := by
  refine MetFree.of_bodySF hpl hisR ?_
  intro p e s m args below meth c s₁ Bd hml0 hP hK
  obtain ⟨rfl, hZ, hh⟩ := hP
  obtain ⟨T', locs, cells, slots, v, X, hQ, h3, h4, h5, h6⟩ := k p e s m below meth c s₁ Bd.exec Bd.bytes hml0 hZ (findClass_of_methodNamed Bd.named) (name_of_methodNamed Bd.named Bd.method).1 Bd.returns (Stand.of_body Bd) (by rw [← hh, Bd.state]; rfl) hh
  obtain ⟨fs, hr, hrun, hended, hW, hsame⟩ := X.leave (v := v) h5
  exact ⟨_, _, castTop (hF m) (h6 fs hr), hrun, hended, v, locs, rfl, hQ, ⟨_, rfl⟩, hW, hsame.mono h3 h4⟩
theorem iloadN (X : Stand p l e R s m args below meth c T locs cells slots) (hx : p.tables.exec = Jvm.exec) {k0 : Fin 4} {v : Int32} (hl : Ls[k0.val]? = some (.val (.int v))) (hd : decode c.code pc = .ok (.iload_n k0, 1)) (hq : pc + 1 = q) (k : Ends p l e R s m args below meth c C S Q T (mkF m q Ls (.int v :: st))) : Ends p l e R s m args below meth c C S Q T (mkF m pc Ls (st)) := step (fun _ h => by subst hq; exact XS.iloadN X.here hx rfl hd hl h) k
theorem iload (X : Stand p l e R s m args below meth c T locs cells slots) (hx : p.tables.exec = Jvm.exec) {k0 : Nat} {v : Int32} (hl : Ls[k0]? = some (.val (.int v))) (hd : decode c.code pc = .ok (.iload k0, 2)) (hq : pc + 2 = q) (k : Ends p l e R s m args below meth c C S Q T (mkF m q Ls (.int v :: st))) : Ends p l e R s m args below meth c C S Q T (mkF m pc Ls (st)) := step (fun _ h => by subst hq; exact XS.iload X.here hx rfl hd hl h) k
theorem istoreN (X : Stand p l e R s m args below meth c T locs cells slots) (hx : p.tables.exec = Jvm.exec) {k0 : Fin 4} {v : Int32} {l' : Array Slot} (hl : storeLocals Ls k0.val (.int v) = some l') (hd : decode c.code pc = .ok (.istore_n k0, 1)) (hq : pc + 1 = q) (k : Ends p l e R s m args below meth c C S Q T (mkF m q l' (st))) : Ends p l e R s m args below meth c C S Q T (mkF m pc Ls (.int v :: st)) := step (fun _ h => by subst hq; exact XS.istoreN X.here hx rfl hd rfl hl h) k
theorem istore (X : Stand p l e R s m args below meth c T locs cells slots) (hx : p.tables.exec = Jvm.exec) {k0 : Nat} {v : Int32} {l' : Array Slot} (hl : storeLocals Ls k0 (.int v) = some l') (hd : decode c.code pc = .ok (.istore k0, 2)) (hq : pc + 2 = q) (k : Ends p l e R s m args below meth c C S Q T (mkF m q l' (st))) : Ends p l e R s m args below meth c C S Q T (mkF m pc Ls (.int v :: st)) := step (fun _ h => by subst hq; exact XS.istore X.here hx rfl hd rfl hl h) k
theorem lloadN (X : Stand p l e R s m args below meth c T locs cells slots) (hx : p.tables.exec = Jvm.exec) {k0 : Fin 4} {v : Int64} (hl : Ls[k0.val]? = some (.val (.long v))) (hd : decode c.code pc = .ok (.lload_n k0, 1)) (hq : pc + 1 = q) (k : Ends p l e R s m args below meth c C S Q T (mkF m q Ls (.long v :: st))) : Ends p l e R s m args below meth c C S Q T (mkF m pc Ls (st)) := step (fun _ h => by subst hq; exact XS.lloadN X.here hx rfl hd hl h) k
theorem lload (X : Stand p l e R s m args below meth c T locs cells slots) (hx : p.tables.exec = Jvm.exec) {k0 : Nat} {v : Int64} (hl : Ls[k0]? = some (.val (.long v))) (hd : decode c.code pc = .ok (.lload k0, 2)) (hq : pc + 2 = q) (k : Ends p l e R s m args below meth c C S Q T (mkF m q Ls (.long v :: st))) : Ends p l e R s m args below meth c C S Q T (mkF m pc Ls (st)) := step (fun _ h => by subst hq; exact XS.lload X.here hx rfl hd hl h) k
theorem lstoreN (X : Stand p l e R s m args below meth c T locs cells slots) (hx : p.tables.exec = Jvm.exec) {k0 : Fin 4} {v : Int64} {l' : Array Slot} (hl : storeLocals Ls k0.val (.long v) = some l') (hd : decode c.code pc = .ok (.lstore_n k0, 1)) (hq : pc + 1 = q) (k : Ends p l e R s m args below meth c C S Q T (mkF m q l' (st))) : Ends p l e R s m args below meth c C S Q T (mkF m pc Ls (.long v :: st)) := step (fun _ h => by subst hq; exact XS.lstoreN X.here hx rfl hd rfl hl h) k
theorem lstore (X : Stand p l e R s m args below meth c T locs cells slots) (hx : p.tables.exec = Jvm.exec) {k0 : Nat} {v : Int64} {l' : Array Slot} (hl : storeLocals Ls k0 (.long v) = some l') (hd : decode c.code pc = .ok (.lstore k0, 2)) (hq : pc + 2 = q) (k : Ends p l e R s m args below meth c C S Q T (mkF m q l' (st))) : Ends p l e R s m args below meth c C S Q T (mkF m pc Ls (.long v :: st)) := step (fun _ h => by subst hq; exact XS.lstore X.here hx rfl hd rfl hl h) k
theorem aloadN (X : Stand p l e R s m args below meth c T locs cells slots) (hx : p.tables.exec = Jvm.exec) {k0 : Fin 4} {v : Value} (hl : Ls[k0.val]? = some (.val v)) (hv : v.isRef = true) (hd : decode c.code pc = .ok (.aload_n k0, 1)) (hq : pc + 1 = q) (k : Ends p l e R s m args below meth c C S Q T (mkF m q Ls (v :: st))) : Ends p l e R s m args below meth c C S Q T (mkF m pc Ls (st)) := step (fun _ h => by subst hq; exact XS.aloadN X.here hx rfl hd hl hv h) k
theorem aload (X : Stand p l e R s m args below meth c T locs cells slots) (hx : p.tables.exec = Jvm.exec) {k0 : Nat} {v : Value} (hl : Ls[k0]? = some (.val v)) (hv : v.isRef = true) (hd : decode c.code pc = .ok (.aload k0, 2)) (hq : pc + 2 = q) (k : Ends p l e R s m args below meth c C S Q T (mkF m q Ls (v :: st))) : Ends p l e R s m args below meth c C S Q T (mkF m pc Ls (st)) := step (fun _ h => by subst hq; exact XS.aload X.here hx rfl hd hl hv h) k
theorem astoreN (X : Stand p l e R s m args below meth c T locs cells slots) (hx : p.tables.exec = Jvm.exec) {k0 : Fin 4} {v : Value} {l' : Array Slot} (hv : v.isRef = true) (hl : storeLocals Ls k0.val v = some l') (hd : decode c.code pc = .ok (.astore_n k0, 1)) (hq : pc + 1 = q) (k : Ends p l e R s m args below meth c C S Q T (mkF m q l' (st))) : Ends p l e R s m args below meth c C S Q T (mkF m pc Ls (v :: st)) := step (fun _ h => by subst hq; exact XS.astoreN X.here hx rfl hd rfl hv hl h) k
theorem astore (X : Stand p l e R s m args below meth c T locs cells slots) (hx : p.tables.exec = Jvm.exec) {k0 : Nat} {v : Value} {l' : Array Slot} (hv : v.isRef = true) (hl : storeLocals Ls k0 v = some l') (hd : decode c.code pc = .ok (.astore k0, 2)) (hq : pc + 2 = q) (k : Ends p l e R s m args below meth c C S Q T (mkF m q l' (st))) : Ends p l e R s m args below meth c C S Q T (mkF m pc Ls (v :: st)) := step (fun _ h => by subst hq; exact XS.astore X.here hx rfl hd rfl hv hl h) k
theorem iconst (X : Stand p l e R s m args below meth c T locs cells slots) (hx : p.tables.exec = Jvm.exec) {i : Int} {v : Int32} (hv : Int32.ofInt i = v) (hd : decode c.code pc = .ok (.iconst i, 1)) (hq : pc + 1 = q) (k : Ends p l e R s m args below meth c C S Q T (mkF m q Ls (.int v :: st))) : Ends p l e R s m args below meth c C S Q T (mkF m pc Ls (st)) := step (fun _ h => by subst hq; exact XS.iconst X.here hx rfl hd (by rw [hv]; exact h)) k
theorem bipush (X : Stand p l e R s m args below meth c T locs cells slots) (hx : p.tables.exec = Jvm.exec) {i : Int} {v : Int32} (hv : (Int8.ofInt i).toInt32 = v) (hd : decode c.code pc = .ok (.bipush i, 2)) (hq : pc + 2 = q) (k : Ends p l e R s m args below meth c C S Q T (mkF m q Ls (.int v :: st))) : Ends p l e R s m args below meth c C S Q T (mkF m pc Ls (st)) := step (fun _ h => by subst hq; exact XS.bipush X.here hx rfl hd (by rw [hv]; exact h)) k
theorem sipush (X : Stand p l e R s m args below meth c T locs cells slots) (hx : p.tables.exec = Jvm.exec) {i : Int} {v : Int32} (hv : (Int16.ofInt i).toInt32 = v) (hd : decode c.code pc = .ok (.sipush i, 3)) (hq : pc + 3 = q) (k : Ends p l e R s m args below meth c C S Q T (mkF m q Ls (.int v :: st))) : Ends p l e R s m args below meth c C S Q T (mkF m pc Ls (st)) := step (fun _ h => by subst hq; exact XS.sipush X.here hx rfl hd (by rw [hv]; exact h)) k
theorem lconst (X : Stand p l e R s m args below meth c T locs cells slots) (hx : p.tables.exec = Jvm.exec) {i : Fin 2} {v : Int64} (hv : Int64.ofNat i = v) (hd : decode c.code pc = .ok (.lconst i, 1)) (hq : pc + 1 = q) (k : Ends p l e R s m args below meth c C S Q T (mkF m q Ls (.long v :: st))) : Ends p l e R s m args below meth c C S Q T (mkF m pc Ls (st)) := step (fun _ h => by subst hq; exact XS.lconst X.here hx rfl hd (by rw [hv]; exact h)) k
theorem aconstNull (X : Stand p l e R s m args below meth c T locs cells slots) (hx : p.tables.exec = Jvm.exec)  (hd : decode c.code pc = .ok (.aconst_null, 1)) (hq : pc + 1 = q) (k : Ends p l e R s m args below meth c C S Q T (mkF m q Ls (.null :: st))) : Ends p l e R s m args below meth c C S Q T (mkF m pc Ls (st)) := step (fun _ h => by subst hq; exact XS.aconstNull X.here hx rfl hd h) k
theorem iadd (X : Stand p l e R s m args below meth c T locs cells slots) (hx : p.tables.exec = Jvm.exec) {x y : Int32} (hd : decode c.code pc = .ok (.iadd, 1)) (hq : pc + 1 = q) (k : Ends p l e R s m args below meth c C S Q T (mkF m q Ls (.int (x + y) :: st))) : Ends p l e R s m args below meth c C S Q T (mkF m pc Ls (.int y :: .int x :: st)) := step (fun _ h => by subst hq; exact XS.iadd X.here hx rfl hd rfl h) k
theorem isub (X : Stand p l e R s m args below meth c T locs cells slots) (hx : p.tables.exec = Jvm.exec) {x y : Int32} (hd : decode c.code pc = .ok (.isub, 1)) (hq : pc + 1 = q) (k : Ends p l e R s m args below meth c C S Q T (mkF m q Ls (.int (x - y) :: st))) : Ends p l e R s m args below meth c C S Q T (mkF m pc Ls (.int y :: .int x :: st)) := step (fun _ h => by subst hq; exact XS.isub X.here hx rfl hd rfl h) k
theorem imul (X : Stand p l e R s m args below meth c T locs cells slots) (hx : p.tables.exec = Jvm.exec) {x y : Int32} (hd : decode c.code pc = .ok (.imul, 1)) (hq : pc + 1 = q) (k : Ends p l e R s m args below meth c C S Q T (mkF m q Ls (.int (x * y) :: st))) : Ends p l e R s m args below meth c C S Q T (mkF m pc Ls (.int y :: .int x :: st)) := step (fun _ h => by subst hq; exact XS.imul X.here hx rfl hd rfl h) k
theorem iand (X : Stand p l e R s m args below meth c T locs cells slots) (hx : p.tables.exec = Jvm.exec) {x y : Int32} (hd : decode c.code pc = .ok (.iand, 1)) (hq : pc + 1 = q) (k : Ends p l e R s m args below meth c C S Q T (mkF m q Ls (.int (x &&& y) :: st))) : Ends p l e R s m args below meth c C S Q T (mkF m pc Ls (.int y :: .int x :: st)) := step (fun _ h => by subst hq; exact XS.iand X.here hx rfl hd rfl h) k
theorem ior (X : Stand p l e R s m args below meth c T locs cells slots) (hx : p.tables.exec = Jvm.exec) {x y : Int32} (hd : decode c.code pc = .ok (.ior, 1)) (hq : pc + 1 = q) (k : Ends p l e R s m args below meth c C S Q T (mkF m q Ls (.int (x ||| y) :: st))) : Ends p l e R s m args below meth c C S Q T (mkF m pc Ls (.int y :: .int x :: st)) := step (fun _ h => by subst hq; exact XS.ior X.here hx rfl hd rfl h) k
theorem ixor (X : Stand p l e R s m args below meth c T locs cells slots) (hx : p.tables.exec = Jvm.exec) {x y : Int32} (hd : decode c.code pc = .ok (.ixor, 1)) (hq : pc + 1 = q) (k : Ends p l e R s m args below meth c C S Q T (mkF m q Ls (.int (x ^^^ y) :: st))) : Ends p l e R s m args below meth c C S Q T (mkF m pc Ls (.int y :: .int x :: st)) := step (fun _ h => by subst hq; exact XS.ixor X.here hx rfl hd rfl h) k
theorem ineg (X : Stand p l e R s m args below meth c T locs cells slots) (hx : p.tables.exec = Jvm.exec) {x : Int32} (hd : decode c.code pc = .ok (.ineg, 1)) (hq : pc + 1 = q) (k : Ends p l e R s m args below meth c C S Q T (mkF m q Ls (.int (-x) :: st))) : Ends p l e R s m args below meth c C S Q T (mkF m pc Ls (.int x :: st)) := step (fun _ h => by subst hq; exact XS.ineg X.here hx rfl hd rfl h) k
theorem idiv (X : Stand p l e R s m args below meth c T locs cells slots) (hx : p.tables.exec = Jvm.exec) {x y : Int32} (hy : y ≠ 0) (hd : decode c.code pc = .ok (.idiv, 1)) (hq : pc + 1 = q) (k : Ends p l e R s m args below meth c C S Q T (mkF m q Ls (.int (x / y) :: st))) : Ends p l e R s m args below meth c C S Q T (mkF m pc Ls (.int y :: .int x :: st)) := step (fun _ h => by subst hq; exact XS.idiv X.here hx rfl hd rfl hy h) k
theorem ladd (X : Stand p l e R s m args below meth c T locs cells slots) (hx : p.tables.exec = Jvm.exec) {x y : Int64} (hd : decode c.code pc = .ok (.ladd, 1)) (hq : pc + 1 = q) (k : Ends p l e R s m args below meth c C S Q T (mkF m q Ls (.long (x + y) :: st))) : Ends p l e R s m args below meth c C S Q T (mkF m pc Ls (.long y :: .long x :: st)) := step (fun _ h => by subst hq; exact XS.ladd X.here hx rfl hd rfl h) k
theorem lsub (X : Stand p l e R s m args below meth c T locs cells slots) (hx : p.tables.exec = Jvm.exec) {x y : Int64} (hd : decode c.code pc = .ok (.lsub, 1)) (hq : pc + 1 = q) (k : Ends p l e R s m args below meth c C S Q T (mkF m q Ls (.long (x - y) :: st))) : Ends p l e R s m args below meth c C S Q T (mkF m pc Ls (.long y :: .long x :: st)) := step (fun _ h => by subst hq; exact XS.lsub X.here hx rfl hd rfl h) k
theorem lmul (X : Stand p l e R s m args below meth c T locs cells slots) (hx : p.tables.exec = Jvm.exec) {x y : Int64} (hd : decode c.code pc = .ok (.lmul, 1)) (hq : pc + 1 = q) (k : Ends p l e R s m args below meth c C S Q T (mkF m q Ls (.long (x * y) :: st))) : Ends p l e R s m args below meth c C S Q T (mkF m pc Ls (.long y :: .long x :: st)) := step (fun _ h => by subst hq; exact XS.lmul X.here hx rfl hd rfl h) k
theorem land (X : Stand p l e R s m args below meth c T locs cells slots) (hx : p.tables.exec = Jvm.exec) {x y : Int64} (hd : decode c.code pc = .ok (.land, 1)) (hq : pc + 1 = q) (k : Ends p l e R s m args below meth c C S Q T (mkF m q Ls (.long (x &&& y) :: st))) : Ends p l e R s m args below meth c C S Q T (mkF m pc Ls (.long y :: .long x :: st)) := step (fun _ h => by subst hq; exact XS.land X.here hx rfl hd rfl h) k
theorem lor (X : Stand p l e R s m args below meth c T locs cells slots) (hx : p.tables.exec = Jvm.exec) {x y : Int64} (hd : decode c.code pc = .ok (.lor, 1)) (hq : pc + 1 = q) (k : Ends p l e R s m args below meth c C S Q T (mkF m q Ls (.long (x ||| y) :: st))) : Ends p l e R s m args below meth c C S Q T (mkF m pc Ls (.long y :: .long x :: st)) := step (fun _ h => by subst hq; exact XS.lor X.here hx rfl hd rfl h) k
theorem lxor (X : Stand p l e R s m args below meth c T locs cells slots) (hx : p.tables.exec = Jvm.exec) {x y : Int64} (hd : decode c.code pc = .ok (.lxor, 1)) (hq : pc + 1 = q) (k : Ends p l e R s m args below meth c C S Q T (mkF m q Ls (.long (x ^^^ y) :: st))) : Ends p l e R s m args below meth c C S Q T (mkF m pc Ls (.long y :: .long x :: st)) := step (fun _ h => by subst hq; exact XS.lxor X.here hx rfl hd rfl h) k
theorem lneg (X : Stand p l e R s m args below meth c T locs cells slots) (hx : p.tables.exec = Jvm.exec) {x : Int64} (hd : decode c.code pc = .ok (.lneg, 1)) (hq : pc + 1 = q) (k : Ends p l e R s m args below meth c C S Q T (mkF m q Ls (.long (-x) :: st))) : Ends p l e R s m args below meth c C S Q T (mkF m pc Ls (.long x :: st)) := step (fun _ h => by subst hq; exact XS.lneg X.here hx rfl hd rfl h) k
theorem ldiv (X : Stand p l e R s m args below meth c T locs cells slots) (hx : p.tables.exec = Jvm.exec) {x y : Int64} (hy : y ≠ 0) (hd : decode c.code pc = .ok (.ldiv, 1)) (hq : pc + 1 = q) (k : Ends p l e R s m args below meth c C S Q T (mkF m q Ls (.long (x / y) :: st))) : Ends p l e R s m args below meth c C S Q T (mkF m pc Ls (.long y :: .long x :: st)) := step (fun _ h => by subst hq; exact XS.ldiv X.here hx rfl hd rfl hy h) k
theorem irem (X : Stand p l e R s m args below meth c T locs cells slots) (hx : p.tables.exec = Jvm.exec) {x y : Int32} (hy : y ≠ 0) (hd : decode c.code pc = .ok (.irem, 1)) (hq : pc + 1 = q) (k : Ends p l e R s m args below meth c C S Q T (mkF m q Ls (.int (x % y) :: st))) : Ends p l e R s m args below meth c C S Q T (mkF m pc Ls (.int y :: .int x :: st)) := step (fun _ h => by subst hq; exact iremM X hx rfl hd rfl hy h) k
theorem lrem (X : Stand p l e R s m args below meth c T locs cells slots) (hx : p.tables.exec = Jvm.exec) {x y : Int64} (hy : y ≠ 0) (hd : decode c.code pc = .ok (.lrem, 1)) (hq : pc + 1 = q) (k : Ends p l e R s m args below meth c C S Q T (mkF m q Ls (.long (x % y) :: st))) : Ends p l e R s m args below meth c C S Q T (mkF m pc Ls (.long y :: .long x :: st)) := step (fun _ h => by subst hq; exact XS.lrem X.here hx rfl hd rfl hy (by rw [lrem_mod]; exact h)) k
theorem ishl (X : Stand p l e R s m args below meth c T locs cells slots) (hx : p.tables.exec = Jvm.exec) {x : Int32} {y : Int32} (hd : decode c.code pc = .ok (.ishl, 1)) (hq : pc + 1 = q) (k : Ends p l e R s m args below meth c C S Q T (mkF m q Ls (.int (x <<< (y &&& 31)) :: st))) : Ends p l e R s m args below meth c C S Q T (mkF m pc Ls (.int y :: .int x :: st)) := step (fun _ h => by subst hq; exact XS.ishl X.here hx rfl hd rfl h) k
theorem ishr (X : Stand p l e R s m args below meth c T locs cells slots) (hx : p.tables.exec = Jvm.exec) {x : Int32} {y : Int32} (hd : decode c.code pc = .ok (.ishr, 1)) (hq : pc + 1 = q) (k : Ends p l e R s m args below meth c C S Q T (mkF m q Ls (.int (x >>> (y &&& 31)) :: st))) : Ends p l e R s m args below meth c C S Q T (mkF m pc Ls (.int y :: .int x :: st)) := step (fun _ h => by subst hq; exact XS.ishr X.here hx rfl hd rfl h) k
theorem iushr (X : Stand p l e R s m args below meth c T locs cells slots) (hx : p.tables.exec = Jvm.exec) {x : Int32} {y : Int32} (hd : decode c.code pc = .ok (.iushr, 1)) (hq : pc + 1 = q) (k : Ends p l e R s m args below meth c C S Q T (mkF m q Ls (.int ((x.toUInt32 >>> (y &&& 31).toUInt32).toInt32) :: st))) : Ends p l e R s m args below meth c C S Q T (mkF m pc Ls (.int y :: .int x :: st)) := step (fun _ h => by subst hq; exact XS.iushr X.here hx rfl hd rfl h) k
theorem lshl (X : Stand p l e R s m args below meth c T locs cells slots) (hx : p.tables.exec = Jvm.exec) {x : Int64} {y : Int32} (hd : decode c.code pc = .ok (.lshl, 1)) (hq : pc + 1 = q) (k : Ends p l e R s m args below meth c C S Q T (mkF m q Ls (.long (x <<< (y &&& 0x3f).toInt64) :: st))) : Ends p l e R s m args below meth c C S Q T (mkF m pc Ls (.int y :: .long x :: st)) := step (fun _ h => by subst hq; exact XS.lshl X.here hx rfl hd rfl h) k
theorem lshr (X : Stand p l e R s m args below meth c T locs cells slots) (hx : p.tables.exec = Jvm.exec) {x : Int64} {y : Int32} (hd : decode c.code pc = .ok (.lshr, 1)) (hq : pc + 1 = q) (k : Ends p l e R s m args below meth c C S Q T (mkF m q Ls (.long (x >>> (y &&& 0x3f).toInt64) :: st))) : Ends p l e R s m args below meth c C S Q T (mkF m pc Ls (.int y :: .long x :: st)) := step (fun _ h => by subst hq; exact XS.lshr X.here hx rfl hd rfl h) k
theorem lushr (X : Stand p l e R s m args below meth c T locs cells slots) (hx : p.tables.exec = Jvm.exec) {x : Int64} {y : Int32} (hd : decode c.code pc = .ok (.lushr, 1)) (hq : pc + 1 = q) (k : Ends p l e R s m args below meth c C S Q T (mkF m q Ls (.long ((x.toUInt64 >>> (y &&& 0x3f).toInt64.toUInt64).toInt64) :: st))) : Ends p l e R s m args below meth c C S Q T (mkF m pc Ls (.int y :: .long x :: st)) := step (fun _ h => by subst hq; exact XS.lushr X.here hx rfl hd rfl h) k
theorem i2l (X : Stand p l e R s m args below meth c T locs cells slots) (hx : p.tables.exec = Jvm.exec) {x : Int32} (hd : decode c.code pc = .ok (.i2l, 1)) (hq : pc + 1 = q) (k : Ends p l e R s m args below meth c C S Q T (mkF m q Ls (.long (x.toInt64) :: st))) : Ends p l e R s m args below meth c C S Q T (mkF m pc Ls (.int x :: st)) := step (fun _ h => by subst hq; exact XS.i2l X.here hx rfl hd rfl h) k
theorem l2i (X : Stand p l e R s m args below meth c T locs cells slots) (hx : p.tables.exec = Jvm.exec) {x : Int64} (hd : decode c.code pc = .ok (.l2i, 1)) (hq : pc + 1 = q) (k : Ends p l e R s m args below meth c C S Q T (mkF m q Ls (.int (x.toInt32) :: st))) : Ends p l e R s m args below meth c C S Q T (mkF m pc Ls (.long x :: st)) := step (fun _ h => by subst hq; exact XS.l2i X.here hx rfl hd rfl h) k
theorem i2b (X : Stand p l e R s m args below meth c T locs cells slots) (hx : p.tables.exec = Jvm.exec) {x : Int32} (hd : decode c.code pc = .ok (.i2b, 1)) (hq : pc + 1 = q) (k : Ends p l e R s m args below meth c C S Q T (mkF m q Ls (.int (x.toInt8.toInt32) :: st))) : Ends p l e R s m args below meth c C S Q T (mkF m pc Ls (.int x :: st)) := step (fun _ h => by subst hq; exact XS.i2b X.here hx rfl hd rfl h) k
theorem i2s (X : Stand p l e R s m args below meth c T locs cells slots) (hx : p.tables.exec = Jvm.exec) {x : Int32} (hd : decode c.code pc = .ok (.i2s, 1)) (hq : pc + 1 = q) (k : Ends p l e R s m args below meth c C S Q T (mkF m q Ls (.int (x.toInt16.toInt32) :: st))) : Ends p l e R s m args below meth c C S Q T (mkF m pc Ls (.int x :: st)) := step (fun _ h => by subst hq; exact XS.i2s X.here hx rfl hd rfl h) k
theorem i2c (X : Stand p l e R s m args below meth c T locs cells slots) (hx : p.tables.exec = Jvm.exec) {x : Int32} (hd : decode c.code pc = .ok (.i2c, 1)) (hq : pc + 1 = q) (k : Ends p l e R s m args below meth c C S Q T (mkF m q Ls (.int (x.toUInt32.toUInt16.toUInt32.toInt32) :: st))) : Ends p l e R s m args below meth c C S Q T (mkF m pc Ls (.int x :: st)) := step (fun _ h => by subst hq; exact XS.i2c X.here hx rfl hd rfl h) k
theorem lcmp (X : Stand p l e R s m args below meth c T locs cells slots) (hx : p.tables.exec = Jvm.exec) {x y : Int64} (hd : decode c.code pc = .ok (.lcmp, 1)) (hq : pc + 1 = q) (k : Ends p l e R s m args below meth c C S Q T (mkF m q Ls (.int (lcmpW x y) :: st))) : Ends p l e R s m args below meth c C S Q T (mkF m pc Ls (.long y :: .long x :: st)) := step (fun _ h => by subst hq; exact XS.lcmp X.here hx rfl hd rfl h) k
theorem dup (X : Stand p l e R s m args below meth c T locs cells slots) (hx : p.tables.exec = Jvm.exec) {v : Value} (hc : v.category = 1) (hd : decode c.code pc = .ok (.dup, 1)) (hq : pc + 1 = q) (k : Ends p l e R s m args below meth c C S Q T (mkF m q Ls (v :: v :: st))) : Ends p l e R s m args below meth c C S Q T (mkF m pc Ls (v :: st)) := step (fun _ h => by subst hq; exact XS.dup X.here hx rfl hd rfl hc h) k
theorem pop (X : Stand p l e R s m args below meth c T locs cells slots) (hx : p.tables.exec = Jvm.exec) {v : Value} (hc : v.category = 1) (hd : decode c.code pc = .ok (.pop, 1)) (hq : pc + 1 = q) (k : Ends p l e R s m args below meth c C S Q T (mkF m q Ls (st))) : Ends p l e R s m args below meth c C S Q T (mkF m pc Ls (v :: st)) := step (fun _ h => by subst hq; exact XS.pop X.here hx rfl hd rfl hc h) k
theorem iinc (X : Stand p l e R s m args below meth c T locs cells slots) (hx : p.tables.exec = Jvm.exec) {k0 : Nat} {cst : Int} {x v : Int32} {l' : Array Slot} (hl : Ls[k0]? = some (.val (.int x))) (hv : x + Int32.ofInt cst = v) (hl' : storeLocals Ls k0 (.int v) = some l') (hd : decode c.code pc = .ok (.iinc k0 cst, 3)) (hq : pc + 3 = q) (k : Ends p l e R s m args below meth c C S Q T (mkF m q l' (st))) : Ends p l e R s m args below meth c C S Q T (mkF m pc Ls (st)) := step (fun _ h => by subst hq; exact XS.iinc X.here hx rfl hd hl (by rw [hv]; exact hl') h) k
theorem goto (X : Stand p l e R s m args below meth c T locs cells slots) (hx : p.tables.exec = Jvm.exec) {o : Int}  (hd : decode c.code pc = .ok (.goto o, 3)) (ho : 0 ≤ (pc : Int) + o) (hq : ((pc : Int) + o).toNat = q) (k : Ends p l e R s m args below meth c C S Q T (mkF m q Ls (st))) : Ends p l e R s m args below meth c C S Q T (mkF m pc Ls (st)) := step (fun _ h => XS.goto X.here hx rfl rfl hd ho hq h) k
theorem ifYes (X : Stand p l e R s m args below meth c T locs cells slots) (hx : p.tables.exec = Jvm.exec) {o : Int} {cd : ClassFile.Cond} {x : Int32} (hc : ifCond.holds cd x = true) (hd : decode c.code pc = .ok (.ifCond cd o, 3)) (ho : 0 ≤ (pc : Int) + o) (hq : ((pc : Int) + o).toNat = q) (k : Ends p l e R s m args below meth c C S Q T (mkF m q Ls (st))) : Ends p l e R s m args below meth c C S Q T (mkF m pc Ls (.int x :: st)) := step (fun _ h => XS.ifYes X.here hx rfl rfl hd rfl hc ho hq h) k
theorem icmpYes (X : Stand p l e R s m args below meth c T locs cells slots) (hx : p.tables.exec = Jvm.exec) {o : Int} {cd : ClassFile.Cond} {x y : Int32} (hc : if_icmp.holds cd x y = true) (hd : decode c.code pc = .ok (.if_icmp cd o, 3)) (ho : 0 ≤ (pc : Int) + o) (hq : ((pc : Int) + o).toNat = q) (k : Ends p l e R s m args below meth c C S Q T (mkF m q Ls (st))) : Ends p l e R s m args below meth c C S Q T (mkF m pc Ls (.int y :: .int x :: st)) := step (fun _ h => XS.icmpYes X.here hx rfl rfl hd rfl hc ho hq h) k
theorem ifnullYes (X : Stand p l e R s m args below meth c T locs cells slots) (hx : p.tables.exec = Jvm.exec) {o : Int}  (hd : decode c.code pc = .ok (.ifnull o, 3)) (ho : 0 ≤ (pc : Int) + o) (hq : ((pc : Int) + o).toNat = q) (k : Ends p l e R s m args below meth c C S Q T (mkF m q Ls (st))) : Ends p l e R s m args below meth c C S Q T (mkF m pc Ls (.null :: st)) := step (fun _ h => XS.ifnullYes X.here hx rfl rfl hd rfl ho hq h) k
theorem ifnonnullYes (X : Stand p l e R s m args below meth c T locs cells slots) (hx : p.tables.exec = Jvm.exec) {o : Int} {b : Addr} (hd : decode c.code pc = .ok (.ifnonnull o, 3)) (ho : 0 ≤ (pc : Int) + o) (hq : ((pc : Int) + o).toNat = q) (k : Ends p l e R s m args below meth c C S Q T (mkF m q Ls (st))) : Ends p l e R s m args below meth c C S Q T (mkF m pc Ls (.ref b :: st)) := step (fun _ h => XS.ifnonnullYes X.here hx rfl rfl hd rfl ho hq h) k
theorem ifNo (X : Stand p l e R s m args below meth c T locs cells slots) (hx : p.tables.exec = Jvm.exec) {o : Int} {cd : ClassFile.Cond} {x : Int32} (hc : ifCond.holds cd x = false) (hd : decode c.code pc = .ok (.ifCond cd o, 3)) (hq : pc + 3 = q) (k : Ends p l e R s m args below meth c C S Q T (mkF m q Ls (st))) : Ends p l e R s m args below meth c C S Q T (mkF m pc Ls (.int x :: st)) := step (fun _ h => by subst hq; exact XS.ifNo X.here hx rfl hd rfl hc h) k
theorem icmpNo (X : Stand p l e R s m args below meth c T locs cells slots) (hx : p.tables.exec = Jvm.exec) {o : Int} {cd : ClassFile.Cond} {x y : Int32} (hc : if_icmp.holds cd x y = false) (hd : decode c.code pc = .ok (.if_icmp cd o, 3)) (hq : pc + 3 = q) (k : Ends p l e R s m args below meth c C S Q T (mkF m q Ls (st))) : Ends p l e R s m args below meth c C S Q T (mkF m pc Ls (.int y :: .int x :: st)) := step (fun _ h => by subst hq; exact XS.icmpNo X.here hx rfl hd rfl hc h) k
theorem ifnullNo (X : Stand p l e R s m args below meth c T locs cells slots) (hx : p.tables.exec = Jvm.exec) {o : Int} {b : Addr} (hd : decode c.code pc = .ok (.ifnull o, 3)) (hq : pc + 3 = q) (k : Ends p l e R s m args below meth c C S Q T (mkF m q Ls (st))) : Ends p l e R s m args below meth c C S Q T (mkF m pc Ls (.ref b :: st)) := step (fun _ h => by subst hq; exact XS.ifnullNo X.here hx rfl hd rfl h) k
theorem ifnonnullNo (X : Stand p l e R s m args below meth c T locs cells slots) (hx : p.tables.exec = Jvm.exec) {o : Int} (hd : decode c.code pc = .ok (.ifnonnull o, 3)) (hq : pc + 3 = q) (k : Ends p l e R s m args below meth c C S Q T (mkF m q Ls (st))) : Ends p l e R s m args below meth c C S Q T (mkF m pc Ls (.null :: st)) := step (fun _ h => by subst hq; exact XS.ifnonnullNo X.here hx rfl hd rfl h) k
theorem acmp (X : Stand p l e R s m args below meth c T locs cells slots) (hx : p.tables.exec = Jvm.exec) {o : Int} {cd : ACond} {x y : Value} (h1 : x.isRef = true) (h2 : y.isRef = true) {same : Bool} (hs : decide (x = y) = same) (hd : decode c.code pc = .ok (.if_acmp cd o, 3)) (ho : 0 ≤ (pc : Int) + o) (hq : q = if acV cd same = true then ((pc : Int) + o).toNat else pc + 3) (k : Ends p l e R s m args below meth c C S Q T (mkF m q Ls st)) : Ends p l e R s m args below meth c C S Q T (mkF m pc Ls (y :: x :: st)) := step (fun _ h => Jvm.RoadKit.acmp X hx rfl h1 h2 rfl hd rfl hs ho hq h) k
theorem dloadN (X : Stand p l e R s m args below meth c T locs cells slots) (hx : p.tables.exec = Jvm.exec) {k0 : Fin 4} {v : UInt64} (hl : Ls[k0.val]? = some (.val (.double v))) (hd : decode c.code pc = .ok (.dload_n k0, 1)) (hq : pc + 1 = q) (k : Ends p l e R s m args below meth c C S Q T (mkF m q Ls (.double v :: st))) : Ends p l e R s m args below meth c C S Q T (mkF m pc Ls (st)) := step (fun _ h => by subst hq; exact XS.dloadN X.here hx rfl hd hl h) k
theorem dload (X : Stand p l e R s m args below meth c T locs cells slots) (hx : p.tables.exec = Jvm.exec) {k0 : Nat} {v : UInt64} (hl : Ls[k0]? = some (.val (.double v))) (hd : decode c.code pc = .ok (.dload k0, 2)) (hq : pc + 2 = q) (k : Ends p l e R s m args below meth c C S Q T (mkF m q Ls (.double v :: st))) : Ends p l e R s m args below meth c C S Q T (mkF m pc Ls (st)) := step (fun _ h => by subst hq; exact XS.dload X.here hx rfl hd hl h) k
theorem dstoreN (X : Stand p l e R s m args below meth c T locs cells slots) (hx : p.tables.exec = Jvm.exec) {k0 : Fin 4} {v : UInt64} {l' : Array Slot} (hl : storeLocals Ls k0.val (.double v) = some l') (hd : decode c.code pc = .ok (.dstore_n k0, 1)) (hq : pc + 1 = q) (k : Ends p l e R s m args below meth c C S Q T (mkF m q l' (st))) : Ends p l e R s m args below meth c C S Q T (mkF m pc Ls (.double v :: st)) := step (fun _ h => by subst hq; exact XS.dstoreN X.here hx rfl hd rfl hl h) k
theorem dstore (X : Stand p l e R s m args below meth c T locs cells slots) (hx : p.tables.exec = Jvm.exec) {k0 : Nat} {v : UInt64} {l' : Array Slot} (hl : storeLocals Ls k0 (.double v) = some l') (hd : decode c.code pc = .ok (.dstore k0, 2)) (hq : pc + 2 = q) (k : Ends p l e R s m args below meth c C S Q T (mkF m q l' (st))) : Ends p l e R s m args below meth c C S Q T (mkF m pc Ls (.double v :: st)) := step (fun _ h => by subst hq; exact XS.dstore X.here hx rfl hd rfl hl h) k
theorem i2d (X : Stand p l e R s m args below meth c T locs cells slots) (hx : p.tables.exec = Jvm.exec) {x : Int32} (hd : decode c.code pc = .ok (.i2d, 1)) (hq : pc + 1 = q) (k : Ends p l e R s m args below meth c C S Q T (mkF m q Ls (.double (FP.i2d x) :: st))) : Ends p l e R s m args below meth c C S Q T (mkF m pc Ls (.int x :: st)) := step (fun _ h => by subst hq; exact XS.i2dS X.here hx rfl hd rfl rfl h) k
theorem b53_i (x : Int32) : B53 x.toInt64 := by
  have h := rng32 x
  unfold B53; rw [c_i2l]
  exact ⟨Int.lt_of_lt_of_le (by decide) h.1, Int.lt_trans h.2 (by decide)⟩
theorem dcmp_i (x y : Int32) (o : CmpOp) : cmpValue (FP.dcmp (FP.i2d x) (FP.i2d y)) o = lcmpW x.toInt64 y.toInt64 := by
  rw [i2d_w, i2d_w]; exact dcmpV_w (b53_i x) (b53_i y) o
theorem dcmpI (X : Stand p l e R s m args below meth c T locs cells slots) (hx : p.tables.exec = Jvm.exec) {o : CmpOp} {x y : Int32} (hd : decode c.code pc = .ok (.dcmp o, 1)) (hq : pc + 1 = q) (k : Ends p l e R s m args below meth c C S Q T (mkF m q Ls (.int (lcmpW x.toInt64 y.toInt64) :: st))) : Ends p l e R s m args below meth c C S Q T (mkF m pc Ls (.double (FP.i2d y) :: .double (FP.i2d x) :: st)) := step (fun _ h => by subst hq; exact XS.dcmpS X.here hx rfl hd rfl (dcmp_i x y o) h) k
theorem dadd (X : Stand p l e R s m args below meth c T locs cells slots) (hx : p.tables.exec = Jvm.exec) {x y : UInt64} (hn : Jvm.Free.Fl.NoNaN64 (FP.dadd x y)) (hd : decode c.code pc = .ok (.dadd, 1)) (hq : pc + 1 = q) (k : Ends p l e R s m args below meth c C S Q T (mkF m q Ls (.double (FP.dadd x y) :: st))) : Ends p l e R s m args below meth c C S Q T (mkF m pc Ls (.double y :: .double x :: st)) := step (fun _ h => by subst hq; exact XS.daddS X.here hx rfl hd rfl hn rfl h) k
theorem dmul (X : Stand p l e R s m args below meth c T locs cells slots) (hx : p.tables.exec = Jvm.exec) {x y : UInt64} (hn : Jvm.Free.Fl.NoNaN64 (FP.dmul x y)) (hd : decode c.code pc = .ok (.dmul, 1)) (hq : pc + 1 = q) (k : Ends p l e R s m args below meth c C S Q T (mkF m q Ls (.double (FP.dmul x y) :: st))) : Ends p l e R s m args below meth c C S Q T (mkF m pc Ls (.double y :: .double x :: st)) := step (fun _ h => by subst hq; exact XS.dmulS X.here hx rfl hd rfl hn rfl h) k
theorem ddiv (X : Stand p l e R s m args below meth c T locs cells slots) (hx : p.tables.exec = Jvm.exec) {x y : UInt64} (hn : Jvm.Free.Fl.NoNaN64 (FP.ddiv x y)) (hd : decode c.code pc = .ok (.ddiv, 1)) (hq : pc + 1 = q) (k : Ends p l e R s m args below meth c C S Q T (mkF m q Ls (.double (FP.ddiv x y) :: st))) : Ends p l e R s m args below meth c C S Q T (mkF m pc Ls (.double y :: .double x :: st)) := step (fun _ h => by subst hq; exact XS.ddivS X.here hx rfl hd rfl hn rfl h) k
theorem dcmpK (X : Stand p l e R s m args below meth c T locs cells slots) (hx : p.tables.exec = Jvm.exec) {o : CmpOp} {x y : UInt64} {v : Int32} (hv : cmpValue (FP.dcmp x y) o = v) (hd : decode c.code pc = .ok (.dcmp o, 1)) (hq : pc + 1 = q) (k : Ends p l e R s m args below meth c C S Q T (mkF m q Ls (.int v :: st))) : Ends p l e R s m args below meth c C S Q T (mkF m pc Ls (.double y :: .double x :: st)) := step (fun _ h => by subst hq; exact XS.dcmpS X.here hx rfl hd rfl hv h) k
theorem dconst0 (X : Stand p l e R s m args below meth c T locs cells slots) (hx : p.tables.exec = Jvm.exec)  (hd : decode c.code pc = .ok (.dconst 0, 1)) (hq : pc + 1 = q) (k : Ends p l e R s m args below meth c C S Q T (mkF m q Ls (.double 0 :: st))) : Ends p l e R s m args below meth c C S Q T (mkF m pc Ls (st)) := step (fun _ h => by subst hq; exact XS.dconst0 X.here hx rfl hd rfl h) k
theorem dconst1 (X : Stand p l e R s m args below meth c T locs cells slots) (hx : p.tables.exec = Jvm.exec)  (hd : decode c.code pc = .ok (.dconst 1, 1)) (hq : pc + 1 = q) (k : Ends p l e R s m args below meth c C S Q T (mkF m q Ls (.double 4607182418800017408 :: st))) : Ends p l e R s m args below meth c C S Q T (mkF m pc Ls (st)) := step (fun _ h => by subst hq; exact XS.dconst1 X.here hx rfl hd (by decide) h) k
theorem ldc2Long (X : Stand p l e R s m args below meth c T locs cells slots) (hx : p.tables.exec = Jvm.exec) {Z : State} {a0 : Array Value} (hZ : Z.Warmed39 s.vm) {own : String} (hown : s.vm.findClass own = some m.cls) {index : Nat} {v : Int64} (w : (Jvm.Cond.constantLong own index v).before a0 Z = true) (hd : decode c.code pc = .ok (.ldc2_w index, 3)) (hq : pc + 3 = q) (k : Ends p l e R s m args below meth c C S Q T (mkF m q Ls (.long v :: st))) : Ends p l e R s m args below meth c C S Q T (mkF m pc Ls st) := step (fun t h => by subst hq; exact X.ldc2Long hx hown (mvT hZ w) (g := mkF m pc Ls st) rfl hd t h) k
theorem ldcInt (X : Stand p l e R s m args below meth c T locs cells slots) (hx : p.tables.exec = Jvm.exec) {Z : State} {a0 : Array Value} (hZ : Z.Warmed39 s.vm) {own : String} (hown : s.vm.findClass own = some m.cls) {index : Nat} {v : Int32} (w : (Jvm.Cond.constant own index v).before a0 Z = true) (hd : decode c.code pc = .ok (.ldc index, 2)) (hq : pc + 2 = q) (k : Ends p l e R s m args below meth c C S Q T (mkF m q Ls (.int v :: st))) : Ends p l e R s m args below meth c C S Q T (mkF m pc Ls st) := step (fun t h => by subst hq; exact X.ldcInt hx hown (mvT hZ w) (g := mkF m pc Ls st) rfl hd t h) k
theorem ldc2Double (X : Stand p l e R s m args below meth c T locs cells slots) (hx : p.tables.exec = Jvm.exec) {Z : State} {a0 : Array Value} (hZ : Z.Warmed39 s.vm) {own : String} (hown : s.vm.findClass own = some m.cls) {index : Nat} {v : UInt64} (w : (Jvm.Cond.constantDouble own index v).before a0 Z = true) (hd : decode c.code pc = .ok (.ldc2_w index, 3)) (hq : pc + 3 = q) (k : Ends p l e R s m args below meth c C S Q T (mkF m q Ls (.double v :: st))) : Ends p l e R s m args below meth c C S Q T (mkF m pc Ls st) := step (fun t h => by subst hq; exact X.ldc2DoubleC hx hown (mvT hZ w) (g := mkF m pc Ls st) rfl hd t h) k
theorem retZ (X : Stand p l e R s m args below meth c T locs cells slots) (hx : p.tables.exec = Jvm.exec) {z : Int32} {t : FieldType} (hret : meth.sig.returnType = some t) (ht : t = .boolean ∨ t = .byte ∨ t = .char ∨ t = .short) (hd : decode c.code pc = .ok (.ireturn, 1)) (hQ : Q (some (.int (nar t z))) T.heap locs) (hc : cells ≤ C) (hs : slots ≤ S) : Ends p l e R s m args below meth c C S Q T (mkF m pc Ls (.int z :: st)) :=
  ⟨T, locs, cells, slots, _, X, hQ, hc, hs, (fun h => by rw [hret] at h; cases h), fun fs hl => retN X hx hret ht hd hl⟩
theorem retG (X : Stand p l e R s m args below meth c T locs cells slots) (hx : p.tables.exec = Jvm.exec) {w : Value} {t : FieldType} {i : Instr} (hret : meth.sig.returnType = some t) (hn : narrow t w = w)
    (hi : (i = .ireturn ∧ (t = .int ∨ t = .boolean ∨ t = .byte ∨ t = .char ∨ t = .short) ∧ ∃ z, w = .int z) ∨ (i = .lreturn ∧ t = .long ∧ ∃ z, w = .long z) ∨ (i = .dreturn ∧ t = .double ∧ ∃ z, w = .double z) ∨ (i = .freturn ∧ t = .float ∧ ∃ z, w = .float z) ∨ (i = .areturn ∧ t.isReference = true ∧ w.isRef = true)) (hd : decode c.code pc = .ok (i, 1)) (hQ : Q (some w) T.heap locs) (hc : cells ≤ C) (hs : slots ≤ S) : Ends p l e R s m args below meth c C S Q T (mkF m pc Ls (w :: st)) :=
  ⟨T, locs, cells, slots, _, X, hQ, hc, hs, (fun h => by rw [hret] at h; cases h), fun fs hl => retOut X hx hret hn hi hd hl⟩
theorem retI (X : Stand p l e R s m args below meth c T locs cells slots) (hx : p.tables.exec = Jvm.exec) {z : Int32} (hret : meth.sig.returnType = some .int) (hd : decode c.code pc = .ok (.ireturn, 1)) (hQ : Q (some (.int z)) T.heap locs) (hc : cells ≤ C) (hs : slots ≤ S) : Ends p l e R s m args below meth c C S Q T (mkF m pc Ls (.int z :: st)) := retG X hx hret rfl (Or.inl ⟨rfl, Or.inl rfl, z, rfl⟩) hd hQ hc hs
theorem retL (X : Stand p l e R s m args below meth c T locs cells slots) (hx : p.tables.exec = Jvm.exec) {z : Int64} (hret : meth.sig.returnType = some .long) (hd : decode c.code pc = .ok (.lreturn, 1)) (hQ : Q (some (.long z)) T.heap locs) (hc : cells ≤ C) (hs : slots ≤ S) : Ends p l e R s m args below meth c C S Q T (mkF m pc Ls (.long z :: st)) := retG X hx hret rfl (Or.inr (Or.inl ⟨rfl, rfl, z, rfl⟩)) hd hQ hc hs
theorem retD (X : Stand p l e R s m args below meth c T locs cells slots) (hx : p.tables.exec = Jvm.exec) {z : UInt64} (hret : meth.sig.returnType = some .double) (hd : decode c.code pc = .ok (.dreturn, 1)) (hQ : Q (some (.double z)) T.heap locs) (hc : cells ≤ C) (hs : slots ≤ S) : Ends p l e R s m args below meth c C S Q T (mkF m pc Ls (.double z :: st)) := retG X hx hret rfl (Or.inr (Or.inr (Or.inl ⟨rfl, rfl, z, rfl⟩))) hd hQ hc hs
theorem retA (X : Stand p l e R s m args below meth c T locs cells slots) (hx : p.tables.exec = Jvm.exec) {v : Value} {t : FieldType} (hret : meth.sig.returnType = some t) (ht : t.isReference = true) (hv : v.isRef = true) (hn : narrow t v = v) (hd : decode c.code pc = .ok (.areturn, 1)) (hQ : Q (some v) T.heap locs) (hc : cells ≤ C) (hs : slots ≤ S) : Ends p l e R s m args below meth c C S Q T (mkF m pc Ls (v :: st)) := retG X hx hret hn (Or.inr (Or.inr (Or.inr (Or.inr ⟨rfl, ht, hv⟩)))) hd hQ hc hs
theorem retV (X : Stand p l e R s m args below meth c T locs cells slots) (hx : p.tables.exec = Jvm.exec) (hret : meth.sig.returnType = none) (hd : decode c.code pc = .ok (.return_, 1)) (hQ : Q none T.heap locs) (hc : cells ≤ C) (hs : slots ≤ S) : Ends p l e R s m args below meth c C S Q T (mkF m pc Ls []) :=
  ⟨T, locs, cells, slots, none, X, hQ, hc, hs, (fun _ => rfl), fun fs hl => X.returnOut hx hret hd hl⟩
theorem callS (X : Stand p l e R s m args below meth c T locs cells slots) (hx : p.tables.exec = Jvm.exec) {Z : State} {a0 : Array Value} (hZ : Z.Warmed39 s.vm) {own : String} (hown : s.vm.findClass own = some m.cls) {index : Nat} {h : Heap} (eT : T.heap = h) {y : MethodName} {bytes : ByteArray} {maxL : Nat} {ret : Option FieldType} {rm : Room} {Qc : Option Value → Heap → List Loc → Prop} (w1 : (Jvm.Cond.methodLink own index y).before a0 Z = true) (w2 : (Jvm.Cond.static y).before a0 Z = true) (w3 : (Jvm.Cond.initialized y.cls).before a0 Z = true) (w4 : (Jvm.Cond.code y bytes maxL ret).before a0 Z = true) (hy : y.cls ≠ "java/lang/invoke/MethodHandle" ∧ y.cls ≠ "java/lang/invoke/VarHandle")
    {argsL : List Value} (hM : Pays l Z y bytes maxL ret [] rm argsL.toArray h Qc) (hsize : Ls.size = c.maxLocals) {ps : List FieldType} {rt : Option FieldType} (hsig : parseMethodDescriptor y.desc = some ⟨ps, rt⟩) (hlen : argsL.length = ps.length) {W : Nat} (hW : (rest.map fun v => v.category).sum ≤ W) (hf : rm.frames + 1 ≤ R.frames) (hl : W + (maxL + 11) + rm.locals ≤ R.locals) (hcc : cells + rm.cells ≤ R.cells) (hss : slots + rm.slots ≤ R.slots) (hst : st = argsL.reverse ++ rest) (hd : decode c.code pc = .ok (.invokestatic index, 3)) (hq : pc + 3 = q) (k : ∀ (T' : State) (v : Option Value) (L : List Loc), Stand p l e R s m args below meth c T' (locs ++ L) (cells + rm.cells) (slots + rm.slots) → Qc v T'.heap L → Ends p l e R s m args below meth c C S Q T' (mkF m q Ls (v.toList ++ rest))) : Ends p l e R s m args below meth c C S Q T (mkF m pc Ls st) := by
  obtain ⟨v, _, ⟨T', L', k', n'⟩, -, X', ⟨L, hQ, l1, y1, z1⟩, stp⟩ := Jvm.LawKit.callS X hx (y := y) hown (mvT hZ w1) (mvT hZ w2) (mvT hZ w3) (mvT hZ w4) hy (backOf (W := W) hM hZ w4 w3 hf hl) (g := mkF m pc Ls st) rfl hsize (argsL := argsL) (rest := rest) (lenOf hsig hlen) hst (by show 2 * 0 + _ ≤ _; omega) hd (fun _ _ => ⟨rfl, eT, hcc, hss⟩)
  dsimp only [Pt.U, Pt.locs, Pt.cells, Pt.slots] at X' l1 y1 z1 stp hQ
  subst l1 y1 z1 hq
  exact step stp (k T' v L X' hQ)
theorem callI (X : Stand p l e R s m args below meth c T locs cells slots) (hx : p.tables.exec = Jvm.exec) {Z : State} {a0 : Array Value} (hZ : Z.Warmed39 s.vm) {own : String} (hown : s.vm.findClass own = some m.cls) {index : Nat} {h : Heap} (eT : T.heap = h) {y : MethodName} {bytes : ByteArray} {maxL : Nat} {rm : Room} {Qc : Option Value → Heap → List Loc → Prop} (hy1 : y.name = "<init>") (w1 : (Jvm.Cond.methodLink own index y).before a0 Z = true) (w2 : (Jvm.Cond.instanceMethod y).before a0 Z = true) (w3 : (Jvm.Cond.initialized y.cls).before a0 Z = true) (w4 : (Jvm.Cond.code y bytes maxL none).before a0 Z = true) (hy : y.cls ≠ "java/lang/invoke/MethodHandle" ∧ y.cls ≠ "java/lang/invoke/VarHandle")
    {a : Addr} {argsL : List Value} (hM : Pays l Z y bytes maxL none [] rm (Value.ref a :: argsL).toArray h Qc) (hsize : Ls.size = c.maxLocals) {ps : List FieldType} {rt : Option FieldType} (hsig : parseMethodDescriptor y.desc = some ⟨ps, rt⟩) (hlen : argsL.length = ps.length) {W : Nat} (hW : (rest.map fun v => v.category).sum ≤ W) (hf : rm.frames + 1 ≤ R.frames) (hl : W + (maxL + 11) + rm.locals ≤ R.locals) (hcc : cells + rm.cells ≤ R.cells) (hss : slots + rm.slots ≤ R.slots) (hst : st = argsL.reverse ++ .ref a :: rest) (hd : decode c.code pc = .ok (.invokespecial index, 3)) (hq : pc + 3 = q) (k : ∀ (T' : State) (v : Option Value) (L : List Loc), Stand p l e R s m args below meth c T' (locs ++ L) (cells + rm.cells) (slots + rm.slots) → Qc v T'.heap L → Ends p l e R s m args below meth c C S Q T' (mkF m q Ls (v.toList ++ rest))) : Ends p l e R s m args below meth c C S Q T (mkF m pc Ls st) := by
  obtain ⟨v, _, ⟨T', L', k', n'⟩, -, X', ⟨L, hQ, l1, y1, z1⟩, stp⟩ := X.specialBack hx (y := y) hy1 hown (mvT hZ w1) (mvT hZ w2) (mvT hZ w4) hy (backOf (W := W) hM hZ w4 w3 hf hl) (g := mkF m pc Ls st) rfl hsize (Steps.refl _) (a := a) (argsL := argsL) (rest := rest) (lenOf hsig hlen) hst (by show 2 * 0 + _ ≤ _; omega) hd (fun _ _ => ⟨rfl, eT, hcc, hss⟩)
  dsimp only [Pt.U, Pt.locs, Pt.cells, Pt.slots] at X' l1 y1 z1 stp hQ
  subst l1 y1 z1 hq
  exact step (fun _ h => stp.trans h) (k T' v L X' hQ)
theorem callV (X : Stand p l e R s m args below meth c T locs cells slots) (hx : p.tables.exec = Jvm.exec) {Z : State} {a0 : Array Value} (hZ : Z.Warmed39 s.vm) {own : String} (hown : s.vm.findClass own = some m.cls) {index : Nat} {h : Heap} (eT : T.heap = h) {y z : MethodName} {K : String} {bytes : ByteArray} {maxL : Nat} {ret : Option FieldType} {rm : Room} {Qc : Option Value → Heap → List Loc → Prop} (w1 : (Jvm.Cond.methodLink own index y).before a0 Z = true) (w2 : (Jvm.Cond.declares y).before a0 Z = true) (hnf : NotFace s y) (w5 : (Jvm.Cond.selects K y z).before a0 Z = true) (w6 : (Jvm.Cond.instanceMethod z).before a0 Z = true) (w3 : (Jvm.Cond.initialized z.cls).before a0 Z = true) (w4 : (Jvm.Cond.code z bytes maxL ret).before a0 Z = true) (hy : y.cls ≠ "java/lang/invoke/MethodHandle" ∧ y.cls ≠ "java/lang/invoke/VarHandle")
    {a : Addr} (E : Exa Z h a K) {argsL : List Value} (hM : Pays l Z z bytes maxL ret [] rm (Value.ref a :: argsL).toArray h Qc) (hsize : Ls.size = c.maxLocals) {ps : List FieldType} {rt : Option FieldType} (hsig : parseMethodDescriptor y.desc = some ⟨ps, rt⟩) (hlen : argsL.length = ps.length) {W : Nat} (hW : (rest.map fun v => v.category).sum ≤ W) (hf : rm.frames + 1 ≤ R.frames) (hl : W + (maxL + 11) + rm.locals ≤ R.locals) (hcc : cells + rm.cells ≤ R.cells) (hss : slots + rm.slots ≤ R.slots) (hst : st = argsL.reverse ++ .ref a :: rest) (hd : decode c.code pc = .ok (.invokevirtual index, 3)) (hq : pc + 3 = q) (k : ∀ (T' : State) (v : Option Value) (L : List Loc), Stand p l e R s m args below meth c T' (locs ++ L) (cells + rm.cells) (slots + rm.slots) → Qc v T'.heap L → Ends p l e R s m args below meth c C S Q T' (mkF m q Ls (v.toList ++ rest))) : Ends p l e R s m args below meth c C S Q T (mkF m pc Ls st) := by
  obtain ⟨cq, kq, qa, qb, qc⟩ := isOf hZ eT E
  obtain ⟨v, _, ⟨T', L', k', n'⟩, -, X', ⟨L, hQ, l1, y1, z1⟩, stp⟩ := X.virtualBack hx (y := y) (z := z) hown (mvT hZ w1) (mvT hZ w2) hnf (mvT hZ w5) (mvT hZ w6) hy (backOf (W := W) hM hZ w4 w3 hf hl) qa qc (g := mkF m pc Ls st) rfl hsize (Steps.refl _) (argsL := argsL) (rest := rest) (lenOf hsig hlen) hst (by show 2 * 0 + _ ≤ _; omega) hd (fun _ _ => ⟨rfl, eT, hcc, hss⟩)
  dsimp only [Pt.U, Pt.locs, Pt.cells, Pt.slots] at X' l1 y1 z1 stp hQ
  subst l1 y1 z1 hq
  exact step (fun _ h => stp.trans h) (k T' v L X' hQ)
theorem pureK {T' : State} {v V : Option Value} {h : Heap} {L : List Loc} (X' : Stand p l e R s m args below meth c T' (locs ++ L) (cells + 0) (slots + 0)) (hQ : RetQ V h v T'.heap L) : Stand p l e R s m args below meth c T' locs cells slots ∧ T'.heap = h ∧ v = V := by
  obtain ⟨h1, h2, rfl⟩ := hQ
  rw [List.append_nil] at X'
  exact ⟨X', h2, h1⟩
theorem iteP {α : Type} {P : α → Prop} {c : Prop} [Decidable c] {a b : α} (h1 : P a) (h2 : P b) : P (if c then a else b) := by split <;> assumption
theorem cat_of {v : Value} (h : v.isRef = true) : v.category = 1 := by rcases ref_cases h with rfl | ⟨a, rfl⟩ <;> rfl
theorem c_t {cd : ClassFile.Cond} {x : Int32} {b : Bool} (h : if_icmp.holds cd x 0 = b) : ifCond.holds cd x = b := (if0 cd x).trans h
theorem Ext_trans {h0 h h' : Heap} (E : Ext h0 h) (E' : Ext h h') : Ext h0 h' := ⟨Nat.le_trans E.1 E'.1, fun a c q => E'.2 a c (E.2 a c q)⟩
theorem Ext_wr {h0 h h' : Heap} {a : Addr} {sl : Nat} {v : Value} (E : Ext h0 h) (W : Wr h h' a sl v) (q : h0.size ≤ a) : Ext h0 h' :=
  ⟨Nat.le_trans E.1 (Keep.of_wr W).1, fun b c r => (Keep.of_wr W).2.1 b c (E.2 b c r) (ninS (Nat.ne_of_lt (Nat.lt_of_lt_of_le (Array.getElem?_eq_some_iff.mp r).1 q)) nin0)⟩
theorem Ext_keep {h0 h h' : Heap} {ws : List Addr} (E : Ext h0 h) (K : Keep h h' ws) (q : ∀ x ∈ ws, h0.size ≤ x) : Ext h0 h' :=
  ⟨Nat.le_trans E.1 K.1, fun b c r => K.2.1 b c (E.2 b c r) fun z => absurd (Array.getElem?_eq_some_iff.mp r).1 (Nat.not_lt.mpr (q b z))⟩
theorem rr_t {a b : Addr} (h : a = b) : decide ((Value.ref a : Value) = .ref b) = true := decide_eq_true (congrArg Value.ref h)
theorem rr_f {a b : Addr} (h : ¬ a = b) : decide ((Value.ref a : Value) = .ref b) = false := decide_eq_false fun q => h (Value.ref.inj q)
theorem l_t {x y : Int64} (h : x < y) : lcmpW x y < 0 := (lw_lt x y).mpr h
theorem l_f {x y : Int64} (h : ¬ x < y) : ¬ lcmpW x y < 0 := fun q => h ((lw_lt x y).mp q)
theorem g_t {x y : Int64} (h : y < x) : 0 < lcmpW x y := (lw_gt x y).mpr h
theorem g_f {x y : Int64} (h : ¬ y < x) : ¬ 0 < lcmpW x y := fun q => h ((lw_gt x y).mp q)
theorem e_t {x y : Int64} (h : x = y) : lcmpW x y = 0 := (lw_eq x y).mpr h
theorem e_f {x y : Int64} (h : ¬ x = y) : ¬ lcmpW x y = 0 := fun q => h ((lw_eq x y).mp q)
end
end Jvm.EKit
namespace Jvm.OwnF
open Jvm.FP.Core
theorem qmin64 : b64.qmin = -1074 := by decide
theorem qmax64 : b64.qmax = 971 := by decide
theorem tails64 : b64.tails = 2 ^ 52 := by decide
theorem p64 : b64.p = 53 := rfl
/-- a whole positive number's datum -/
theorem whole_pos {A : Nat} {a : UInt64} (hA : 0 < A) (h : DInt (A : Int) a) : ∃ c q, val64 a = .fin false c q ∧ c * 2 ^ q.toNat = A * 2 ^ (-q).toNat := by
  unfold DInt at h
  generalize val64 a = d at h
  cases d with
  | nan => exact h.elim
  | inf => exact h.elim
  | fin s c q =>
    have h : signed s (c * 2 ^ q.toNat) = (A : Int) * ((2 ^ (-q).toNat : Nat) : Int) := h
    cases s with
    | true =>
      exfalso
      have h2 : 0 < A * 2 ^ (-q).toNat := Nat.mul_pos hA (Nat.two_pow_pos _)
      rw [← Int.natCast_mul] at h
      simp only [signed, if_true] at h
      omega
    | false =>
      refine ⟨c, q, rfl, ?_⟩
      rw [← Int.natCast_mul] at h
      simp only [signed, Bool.false_eq_true, if_false] at h
      omega
theorem pow_swap (q r : Int) (c d A B : Nat) (h1 : c * 2 ^ q.toNat = A * 2 ^ (-q).toNat) (h2 : d * 2 ^ r.toNat = B * 2 ^ (-r).toNat) : c * B * 2 ^ (q - r - 0).toNat = A * d * 2 ^ (0 - (q - r)).toNat := by
  have t : 0 < 2 ^ q.toNat * 2 ^ r.toNat * 2 ^ (-r).toNat * 2 ^ (-q).toNat := Nat.mul_pos (Nat.mul_pos (Nat.mul_pos (Nat.two_pow_pos _) (Nat.two_pow_pos _)) (Nat.two_pow_pos _)) (Nat.two_pow_pos _)
  have e1 : c * B * 2 ^ (q - r - 0).toNat * (2 ^ q.toNat * 2 ^ r.toNat * 2 ^ (-r).toNat * 2 ^ (-q).toNat) = (A * 2 ^ (-q).toNat) * (d * 2 ^ r.toNat) * (2 ^ (q - r - 0).toNat * 2 ^ r.toNat * 2 ^ (-q).toNat) := by
    rw [← h1, h2]
    generalize 2 ^ q.toNat = u1; generalize 2 ^ r.toNat = u2; generalize 2 ^ (-r).toNat = u3; generalize 2 ^ (-q).toNat = u4; generalize 2 ^ (q - r - 0).toNat = u5
    ac_rfl
  have e2 : A * d * 2 ^ (0 - (q - r)).toNat * (2 ^ q.toNat * 2 ^ r.toNat * 2 ^ (-r).toNat * 2 ^ (-q).toNat) = (A * 2 ^ (-q).toNat) * (d * 2 ^ r.toNat) * (2 ^ (0 - (q - r)).toNat * 2 ^ q.toNat * 2 ^ (-r).toNat) := by
    generalize 2 ^ q.toNat = u1; generalize 2 ^ r.toNat = u2; generalize 2 ^ (-r).toNat = u3; generalize 2 ^ (-q).toNat = u4; generalize 2 ^ (0 - (q - r)).toNat = u5
    ac_rfl
  have e3 : 2 ^ (q - r - 0).toNat * 2 ^ r.toNat * 2 ^ (-q).toNat = 2 ^ (0 - (q - r)).toNat * 2 ^ q.toNat * 2 ^ (-r).toNat := by
    rw [← Nat.pow_add, ← Nat.pow_add, ← Nat.pow_add, ← Nat.pow_add]; congr 1; omega
  exact Nat.eq_of_mul_eq_mul_right t (by rw [e1, e2, e3])
/-- the quotient of two whole positive numbers -/
theorem quot {A B : Nat} {a b : UInt64} (hA : 0 < A) (hB : 0 < B) (ha : DInt (A : Int) a) (hb : DInt (B : Int) b) : val64 (ddiv a b) = roundRatio b64 false A B 0 := by
  obtain ⟨c, q, e1, h1⟩ := whole_pos hA ha
  obtain ⟨d, r, e2, h2⟩ := whole_pos hB hb
  have hd : 0 < d := Nat.pos_of_ne_zero fun z => by
    have := Nat.mul_pos hB (Nat.two_pow_pos (-r).toNat)
    rw [z, Nat.zero_mul] at h2; omega
  rw [val64_ddiv, e1, e2]
  show (if d = 0 then _ else roundRatio b64 (false != false) c d (q - r)) = _
  rw [if_neg (Nat.ne_of_gt hd)]
  exact roundRatio_congr hd hB (pow_swap q r c d A B h1 h2)
theorem lead_bd {A B : Nat} (hA : 0 < A) (hB : 0 < B) (h1 : A < 2 ^ 60) (h2 : B < 2 ^ 60) : -61 ≤ leading A B ∧ leading A B ≤ 60 := by
  have a1 : A.log2 < 60 := (Nat.log2_lt (Nat.ne_of_gt hA)).mpr h1
  have a2 : B.log2 < 60 := (Nat.log2_lt (Nat.ne_of_gt hB)).mpr h2
  unfold leading
  dsimp only
  split <;> omega
/-- a ratio's rounding, and what it is with the exponent moved -/
theorem shifted {A B : Nat} (hA : 0 < A) (hB : 0 < B) (h1 : A < 2 ^ 60) (h2 : B < 2 ^ 60) : ∃ c k, 2 ^ 52 ≤ c ∧ c < 2 ^ 53 ∧ -200 ≤ k ∧ k ≤ 200 ∧ ∀ d : Int, -10 ≤ d → d ≤ 10 → roundRatio b64 false A B d = .fin false c (k + d) := by
  obtain ⟨l1, l2⟩ := lead_bd hA hB h1 h2
  have key : ∀ d : Int, -10 ≤ d → d ≤ 10 → roundRatio b64 false A B d = settle b64 false (nearest (unitsNum A 0 (leading A B - 52)) (unitsDen B 0 (leading A B - 52))) (leading A B - 52 + d) := fun d g1 g2 => by
    have eq : quantum b64 A B d = leading A B - 52 + d := by
      unfold quantum; rw [qmin64, p64]; omega
    unfold roundRatio roundAt
    rw [if_neg (Nat.ne_of_gt hA), eq]
    have e1 : unitsNum A d (leading A B - 52 + d) = unitsNum A 0 (leading A B - 52) := by
      unfold unitsNum; rw [show d - (leading A B - 52 + d) = 0 - (leading A B - 52) by omega]
    have e2 : unitsDen B d (leading A B - 52 + d) = unitsDen B 0 (leading A B - 52) := by
      unfold unitsDen; rw [show leading A B - 52 + d - d = leading A B - 52 - 0 by omega]
    rw [e1, e2]
  have hfit := roundRatio_fits good_b64 false A hB 0
  have k0 := key 0 (by omega) (by omega)
  rw [k0] at hfit
  generalize nearest (unitsNum A 0 (leading A B - 52)) (unitsDen B 0 (leading A B - 52)) = N at *
  generalize leading A B = L at *
  by_cases hN : N < 2 ^ 53
  · have st : ∀ d : Int, -10 ≤ d → d ≤ 10 → settle b64 false N (L - 52 + d) = .fin false N (L - 52 + d) := fun d g1 g2 => by
      unfold settle bound; rw [if_pos (show N < 2 ^ b64.p from hN), if_pos (by rw [qmax64]; omega)]
    rw [st 0 (by omega) (by omega)] at hfit
    obtain ⟨f1, f2, f3, f4⟩ := hfit
    rw [tails64, qmin64] at f4
    refine ⟨N, L - 52, by omega, hN, by omega, by omega, fun d g1 g2 => (key d g1 g2).trans (st d g1 g2)⟩
  · have st : ∀ d : Int, -10 ≤ d → d ≤ 10 → settle b64 false N (L - 52 + d) = .fin false (2 ^ 52) (L - 51 + d) := fun d g1 g2 => by
      unfold settle bound; rw [if_neg (show ¬ N < 2 ^ b64.p from hN), if_pos (by rw [qmax64]; omega), tails64, show L - 52 + d + 1 = L - 51 + d by omega]
    exact ⟨2 ^ 52, L - 51, Nat.le_refl _, by decide, by omega, by omega, fun d g1 g2 => (key d g1 g2).trans (st d g1 g2)⟩
theorem two64 : val64 4611686018427387904 = .fin false (2 ^ 52) (-51) := by decide +kernel
theorem fits_mid {c : Nat} {k : Int} (h1 : 2 ^ 52 ≤ c) (h2 : c < 2 ^ 53) (h3 : -300 ≤ k) (h4 : k ≤ 300) : Jvm.FP.Core.fits b64 (.fin false c k) := by
  refine ⟨h2, ?_, ?_, Or.inr (by rw [tails64]; exact h1)⟩
  · rw [qmin64]; omega
  · rw [qmax64]; omega
theorem twice {x : UInt64} {c : Nat} {k : Int} (hx : val64 x = .fin false c k) (h1 : 2 ^ 52 ≤ c) (h2 : c < 2 ^ 53) (h3 : -200 ≤ k) (h4 : k ≤ 200) : val64 (dmul 4611686018427387904 x) = .fin false c (k + 1) := by
  rw [val64_dmul, hx, two64]
  show roundRatio b64 (false != false) (2 ^ 52 * c) 1 (-51 + k) = _
  refine roundRatio_exact good_b64 (by decide) (fits_mid h1 h2 (by omega) (by omega)) ?_
  rw [show (-51 + k - (k + 1)).toNat = 0 by omega, show (k + 1 - (-51 + k)).toNat = 52 by omega]
  omega
theorem half {x : UInt64} {c : Nat} {k : Int} (hx : val64 x = .fin false c k) (h1 : 2 ^ 52 ≤ c) (h2 : c < 2 ^ 53) (h3 : -200 ≤ k) (h4 : k ≤ 200) : val64 (ddiv x 4611686018427387904) = .fin false c (k - 1) := by
  rw [val64_ddiv, hx, two64]
  show (if 2 ^ 52 = 0 then (if c = 0 then Datum.nan else .inf (false != false)) else roundRatio b64 (false != false) c (2 ^ 52) (k - (-51))) = _
  rw [if_neg (by decide)]
  refine roundRatio_exact good_b64 (by decide) (fits_mid h1 h2 (by omega) (by omega)) ?_
  rw [show (k - -51 - (k - 1)).toNat = 52 by omega, show (k - 1 - (k - -51)).toNat = 0 by omega]
  omega
/-- a number of the format with a significand of few digits -/
theorem repr {M : Nat} {G : Int} (hM : 0 < M) (h2 : M < 2 ^ 53) (h3 : -300 ≤ G) (h4 : G ≤ 300) : ∃ V, Jvm.FP.Core.fits b64 V ∧ V ≠ .nan ∧ zmag b64 V = M * 2 ^ (G + 1074).toNat := by
  have l1 : 2 ^ M.log2 ≤ M := Nat.log2_self_le (Nat.ne_of_gt hM)
  have l2 : M < 2 ^ (M.log2 + 1) := Nat.lt_log2_self
  have l3 : M.log2 < 53 := (Nat.log2_lt (Nat.ne_of_gt hM)).mpr h2
  generalize M.log2 = L at *
  refine ⟨.fin false (M * 2 ^ (52 - L)) (G - (52 - L : Nat)), ⟨?_, ?_, ?_, Or.inr ?_⟩, nofun, ?_⟩
  · show M * 2 ^ (52 - L) < 2 ^ 53
    calc M * 2 ^ (52 - L) < 2 ^ (L + 1) * 2 ^ (52 - L) := Nat.mul_lt_mul_of_pos_right l2 (Nat.two_pow_pos _)
      _ = 2 ^ 53 := by rw [← Nat.pow_add]; congr 1; omega
  · rw [qmin64]; omega
  · rw [qmax64]; omega
  · rw [tails64]
    calc 2 ^ 52 = 2 ^ L * 2 ^ (52 - L) := by rw [← Nat.pow_add]; congr 1; omega
      _ ≤ M * 2 ^ (52 - L) := Nat.mul_le_mul_right _ l1
  · show M * 2 ^ (52 - L) * 2 ^ (G - (52 - L : Nat) - b64.qmin).toNat = _
    rw [qmin64, Nat.mul_assoc, ← Nat.pow_add]; congr 2; omega
/-- two ratios a little apart are apart when rounded -/
theorem strict {A1 B1 A2 B2 : Nat} (a1 : 0 < A1) (b1 : 0 < B1) (b2 : 0 < B2) (l1 : A1 < 2 ^ 60) (l2 : B1 < 2 ^ 60) (h : A1 * B2 * (2 ^ 30 + 1) ≤ A2 * B1 * 2 ^ 30) : zmag b64 (roundRatio b64 false A1 B1 0) < zmag b64 (roundRatio b64 false A2 B2 0) := by
  obtain ⟨g1, g2⟩ := lead_bd a1 b1 l1 l2
  obtain ⟨s1, s2⟩ := leading_spec a1 b1
  generalize leading A1 B1 = L at *
  have hG1 : ¬ unitsNum A1 0 (L - 31) < 2 ^ 31 * unitsDen B1 0 (L - 31) := fun z => s1 (by have := (units_below A1 B1 0 (L - 31) 31).mp z; rwa [show L - 31 - 0 + ((31 : Nat) : Int) = L by omega] at this)
  have hG2 : unitsNum A1 0 (L - 31) < 2 ^ 32 * unitsDen B1 0 (L - 31) := (units_below A1 B1 0 (L - 31) 32).mpr (by rwa [show L - 31 - 0 + ((32 : Nat) : Int) = L + 1 by omega])
  have d1 : 0 < unitsDen B1 0 (L - 31) := unitsDen_pos b1 ..
  have d2 : 0 < unitsDen B2 0 (L - 31) := unitsDen_pos b2 ..
  have hx : unitsNum A1 0 (L - 31) * unitsDen B2 0 (L - 31) * (2 ^ 30 + 1) ≤ unitsNum A2 0 (L - 31) * unitsDen B1 0 (L - 31) * 2 ^ 30 := by
    unfold unitsNum unitsDen
    generalize 2 ^ (0 - (L - 31)).toNat = u; generalize 2 ^ (L - 31 - 0).toNat = v
    have := Nat.mul_le_mul_right (u * v) h
    calc A1 * u * (B2 * v) * (2 ^ 30 + 1) = A1 * B2 * (2 ^ 30 + 1) * (u * v) := by ac_rfl
      _ ≤ A2 * B1 * 2 ^ 30 * (u * v) := this
      _ = A2 * u * (B1 * v) * 2 ^ 30 := by ac_rfl
  have conv : ∀ (M A B : Nat), (unitsNum A 0 (L - 31) ≤ M * unitsDen B 0 (L - 31) → inUnits A 0 b64.qmin ≤ M * 2 ^ (L - 31 + 1074).toNat * 2 ^ (b64.qmin - b64.qmin).toNat * B) ∧ (M * unitsDen B 0 (L - 31) ≤ unitsNum A 0 (L - 31) → M * 2 ^ (L - 31 + 1074).toNat * 2 ^ (b64.qmin - b64.qmin).toNat * B ≤ inUnits A 0 b64.qmin) := fun M A B => by
    have w : (L - 31 + 1074).toNat = (L - 31 - 0).toNat + (min (L - 31) 0 + 1074).toNat := by omega
    have w2 : (0 - b64.qmin).toNat = (0 - (L - 31)).toNat + (min (L - 31) 0 + 1074).toNat := by rw [qmin64]; omega
    have z : (b64.qmin - b64.qmin).toNat = 0 := by omega
    unfold unitsNum unitsDen inUnits
    rw [z, w, w2, Nat.pow_add, Nat.pow_add, Nat.pow_zero, Nat.mul_one]
    generalize 2 ^ (0 - (L - 31)).toNat = u; generalize 2 ^ (L - 31 - 0).toNat = v; generalize 2 ^ (min (L - 31) 0 + 1074).toNat = t
    constructor
    · intro q
      calc A * (u * t) = A * u * t := by ac_rfl
        _ ≤ M * (B * v) * t := Nat.mul_le_mul_right _ q
        _ = M * (v * t) * B := by ac_rfl
    · intro q
      calc M * (v * t) * B = M * (B * v) * t := by ac_rfl
        _ ≤ A * u * t := Nat.mul_le_mul_right _ q
        _ = A * (u * t) := by ac_rfl
  have c1 := conv (unitsNum A1 0 (L - 31) / unitsDen B1 0 (L - 31) + 1) A1 B1
  have c2 := conv (unitsNum A1 0 (L - 31) / unitsDen B1 0 (L - 31) + 2) A2 B2
  clear conv
  generalize unitsNum A1 0 (L - 31) = P at *
  generalize unitsDen B1 0 (L - 31) = D1 at *
  generalize unitsNum A2 0 (L - 31) = P2 at *
  generalize unitsDen B2 0 (L - 31) = D2 at *
  have f1 : P / D1 * D1 ≤ P := Nat.div_mul_le_self P D1
  have f2 : P < (P / D1 + 1) * D1 := by rw [Nat.add_mul, Nat.one_mul, Nat.mul_comm]; exact Nat.lt_mul_div_succ P d1
  have f3 : P / D1 < 2 ^ 32 := (Nat.div_lt_iff_lt_mul d1).mpr hG2
  generalize P / D1 = M at *
  have up : (M + 2) * D2 ≤ P2 := by
    refine Nat.le_of_mul_le_mul_right (c := D1 * 2 ^ 30) ?_ (Nat.mul_pos d1 (by decide))
    calc (M + 2) * D2 * (D1 * 2 ^ 30) = (M * D1) * D2 * 2 ^ 30 + D2 * (2 ^ 31 * D1) := by
            rw [show (2 : Nat) ^ 31 = 2 * 2 ^ 30 by decide]
            generalize (2 : Nat) ^ 30 = w
            rw [Nat.add_mul, Nat.add_mul]
            congr 1 <;> ac_rfl
      _ ≤ P * D2 * 2 ^ 30 + D2 * P := Nat.add_le_add (Nat.mul_le_mul_right _ (Nat.mul_le_mul_right _ f1)) (Nat.mul_le_mul_left _ (Nat.le_of_not_lt hG1))
      _ = P * D2 * (2 ^ 30 + 1) := by rw [Nat.mul_add, Nat.mul_one, Nat.mul_comm D2 P]
      _ ≤ P2 * D1 * 2 ^ 30 := hx
      _ = P2 * (D1 * 2 ^ 30) := by ac_rfl
  obtain ⟨V1, v1, v2, v3⟩ := repr (M := M + 1) (G := L - 31) (by omega) (by omega) (by omega) (by omega)
  obtain ⟨V2, w1, w2, w3⟩ := repr (M := M + 2) (G := L - 31) (by omega) (by omega) (by omega) (by omega)
  have r1 := zmag_roundRatio_le good_b64 (s := false) (A := A1) (B := B1) (e := 0) (e0 := b64.qmin) b1 v1 v2 (Int.le_refl _) (by rw [qmin64]; decide) (by rw [v3]; exact c1.1 (Nat.le_of_lt f2))
  have r2 := zmag_roundRatio_ge good_b64 (s := false) (A := A2) (B := B2) (e := 0) (e0 := b64.qmin) b2 w1 (Int.le_refl _) (by rw [qmin64]; decide) (by rw [w3]; exact c2.2 up)
  have r3 : zmag b64 V1 < zmag b64 V2 := by rw [v3, w3]; exact Nat.mul_lt_mul_of_pos_right (by omega) (Nat.two_pow_pos _)
  omega
theorem zv {x : UInt64} {c : Nat} {k : Int} (hx : val64 x = .fin false c k) : zval b64 (val64 x) = (zmag b64 (val64 x) : Int) := by rw [hx]; rfl
theorem gt_of {x y : UInt64} {c d : Nat} {k r : Int} (hx : val64 x = .fin false c k) (hy : val64 y = .fin false d r) (h : zmag b64 (val64 y) < zmag b64 (val64 x)) : dcmp x y = some .gt :=
  dcmp_gt.mpr ⟨by rw [hx]; nofun, by rw [hy]; nofun, by rw [zv hx, zv hy]; omega⟩
theorem lt_of {x y : UInt64} {c d : Nat} {k r : Int} (hx : val64 x = .fin false c k) (hy : val64 y = .fin false d r) (h : zmag b64 (val64 x) < zmag b64 (val64 y)) : dcmp x y = some .lt :=
  dcmp_lt.mpr ⟨by rw [hx]; nofun, by rw [hy]; nofun, by rw [zv hx, zv hy]; omega⟩
theorem pos_of {x : UInt64} {c : Nat} {k : Int} (hx : val64 x = .fin false c k) (h : 0 < c) : dcmp x 0 = some .gt :=
  dcmp_gt.mpr ⟨by rw [hx]; nofun, by rw [val64_zero]; nofun, by
    rw [zval64_zero, zv hx, hx]
    have : 0 < c * 2 ^ (k - b64.qmin).toNat := Nat.mul_pos h (Nat.two_pow_pos _)
    show (0 : Int) < ((c * 2 ^ (k - b64.qmin).toNat : Nat) : Int)
    omega⟩
theorem eq_of {x y : UInt64} {c : Nat} {k : Int} (hx : val64 x = .fin false c k) (hy : val64 y = .fin false c k) : dcmp x y = some .eq :=
  dcmp_eq.mpr ⟨by rw [hx]; nofun, by rw [hy]; nofun, by rw [hx, hy]⟩
end Jvm.OwnF
namespace Jvm.OwnF
open Jvm.FP.Core
open Jvm.Free.Fl (NoNaN64 val64_no)
def hop (n : Int32) (x : UInt64) : UInt64 := Jvm.FP.ddiv (Jvm.FP.dmul (Jvm.FP.i2d n) 4620693217682128896) (Jvm.FP.dmul x 4696837146684686336)
def HopOk (n : Int32) (x : UInt64) : Prop := NoNaN64 (Jvm.FP.dmul (Jvm.FP.i2d n) 4620693217682128896) ∧ NoNaN64 (Jvm.FP.dmul x 4696837146684686336) ∧ NoNaN64 (hop n x)
theorem d_int {i : Int} {x : UInt64} (h : DInt i x) : NoNaN64 x := val64_no.mpr fun q => by unfold DInt at h; rw [q] at h; exact h
theorem d_fin {x : UInt64} {c : Nat} {k : Int} (h : val64 x = .fin false c k) : NoNaN64 x := val64_no.mpr fun q => by rw [h] at q; cases q
theorem k8 : DInt ((8 : Nat) : Int) 4620693217682128896 := by
  show Whole _ (val64 _)
  rw [show val64 4620693217682128896 = .fin false (2 ^ 52) (-49) from by decide +kernel]
  show signed false (2 ^ 52 * 2 ^ (-49 : Int).toNat) = ((8 : Nat) : Int) * ((2 ^ (-(-49 : Int)).toNat : Nat) : Int)
  decide +kernel
theorem k6 : DInt ((1000000 : Nat) : Int) 4696837146684686336 := by
  show Whole _ (val64 _)
  rw [show val64 4696837146684686336 = .fin false (1000000 * 2 ^ 33) (-33) from by decide +kernel]
  show signed false (1000000 * 2 ^ 33 * 2 ^ (-33 : Int).toNat) = ((1000000 : Nat) : Int) * ((2 ^ (-(-33 : Int)).toNat : Nat) : Int)
  decide +kernel
theorem k2 : DInt ((2 : Nat) : Int) 4611686018427387904 := by
  show Whole _ (val64 _)
  rw [two64]
  show signed false (2 ^ 52 * 2 ^ (-51 : Int).toNat) = ((2 : Nat) : Int) * ((2 ^ (-(-51 : Int)).toNat : Nat) : Int)
  decide +kernel
theorem k1 : DInt ((1 : Nat) : Int) 4607182418800017408 := by
  show Whole _ (val64 _)
  rw [show val64 4607182418800017408 = .fin false (2 ^ 52) (-52) from by decide +kernel]
  show signed false (2 ^ 52 * 2 ^ (-52 : Int).toNat) = ((1 : Nat) : Int) * ((2 ^ (-(-52 : Int)).toNat : Nat) : Int)
  decide +kernel
theorem mulN {A B : Nat} {a b : UInt64} (ha : DInt (A : Int) a) (hb : DInt (B : Int) b) (h : A * B ≤ 2 ^ 53) : DInt ((A * B : Nat) : Int) (Jvm.FP.dmul a b) := by
  rw [Int.natCast_mul]; exact dmul_int ha hb (by rw [← Int.natCast_mul]; exact h)
theorem hopV {n : Int32} {N R : Nat} {x : UInt64} (hn : n.toInt = N) (n0 : 0 < N) (n1 : N < 2 ^ 31) (hx : DInt (R : Int) x) (r0 : 0 < R) (r1 : R ≤ 2 ^ 18) : HopOk n x ∧ val64 (hop n x) = roundRatio b64 false (N * 8) (R * 1000000) 0 := by
  have a1 : DInt ((N * 8 : Nat) : Int) (Jvm.FP.dmul (Jvm.FP.i2d n) 4620693217682128896) := mulN (hn ▸ i2d_int n) k8 (by omega)
  have a2 : DInt ((R * 1000000 : Nat) : Int) (Jvm.FP.dmul x 4696837146684686336) := mulN hx k6 (by omega)
  have e : val64 (hop n x) = roundRatio b64 false (N * 8) (R * 1000000) 0 := quot (by omega) (by omega) a1 a2
  obtain ⟨c, k, -, -, -, -, h⟩ := shifted (A := N * 8) (B := R * 1000000) (by omega) (by omega) (by omega) (by omega)
  exact ⟨⟨d_int a1, d_int a2, d_fin (e.trans (h 0 (by decide) (by decide)))⟩, e⟩
def Ok (q p : Int32) (x : UInt64) (m j : Int32) : Prop := (0 < q.toInt ∧ q.toInt < 1073741824) ∧ 0 < p.toInt ∧ (∃ R : Nat, 0 < R ∧ R ≤ 65536 ∧ DInt (R : Int) x) ∧ (0 < m.toInt ∧ m.toInt ≤ 128) ∧ (0 < j.toInt ∧ j.toInt ≤ 128)
theorem nat_of {i : Int} (h : 0 < i) : ∃ N : Nat, 0 < N ∧ i = N := ⟨i.toNat, by omega, by omega⟩
theorem own_exact {m j : Int32} (hm : 0 < m.toInt ∧ m.toInt ≤ 128) (hj : 0 < j.toInt ∧ j.toInt ≤ 128) : HopOk (125000 * m * j) (Jvm.FP.i2d j) ∧ Jvm.FP.dcmp (hop (125000 * m * j) (Jvm.FP.i2d j)) (Jvm.FP.i2d m) = some .eq := by
  obtain ⟨M, m0, em⟩ := nat_of hm.1
  obtain ⟨J, j0, ej⟩ := nat_of hj.1
  have hM : M ≤ 128 := by omega
  have hJ : J ≤ 128 := by omega
  have hMJ : M * J ≤ 128 * 128 := Nat.mul_le_mul hM hJ
  have e0 : (125000 * m).toInt = 125000 * M := by
    rw [Int32.toInt_mul, show (125000 : Int32).toInt = 125000 from rfl, em]; exact Int.bmod_eq_of_le (by omega) (by omega)
  have e1 : (125000 * m * j).toInt = ((125000 * (M * J) : Nat) : Int) := by
    rw [Int32.toInt_mul, e0, ej, show (125000 * (M : Int)) * J = ((125000 * (M * J) : Nat) : Int) by rw [Int.natCast_mul, Int.natCast_mul, Int.mul_assoc]; rfl]
    exact Int.bmod_eq_of_le (by omega) (by omega)
  have p0 : 0 < M * J := Nat.mul_pos m0 j0
  obtain ⟨ok, v⟩ := hopV e1 (by omega) (by omega) (ej ▸ i2d_int j) j0 (by omega)
  refine ⟨ok, ?_⟩
  have v2 : val64 (hop (125000 * m * j) (Jvm.FP.i2d j)) = roundRatio b64 false M 1 0 := by
    rw [v]
    refine roundRatio_congr (by omega) (by decide) ?_
    simp only [Int.sub_self, Int.toNat_zero, Nat.pow_zero, Nat.mul_one]
    calc 125000 * (M * J) * 8 = M * (J * (125000 * 8)) := by ac_rfl
      _ = M * (J * 1000000) := rfl
  have v3 : val64 (Jvm.FP.i2d m) = roundRatio b64 false M 1 0 := by
    show val64 (i2d m) = _
    rw [val64_i2d, em]
    show roundRatio b64 (decide ((M : Int) < 0)) (M : Int).natAbs 1 0 = _
    rw [show decide ((M : Int) < 0) = false from decide_eq_false (by omega), Int.natAbs_natCast]
  obtain ⟨c, k, -, -, -, -, h⟩ := shifted (A := M) (B := 1) m0 (by decide) (by omega) (by decide)
  have h0 := h 0 (by decide) (by decide)
  exact eq_of (v2.trans h0) (v3.trans h0)
theorem own_pos {n : Int32} {x : UInt64} (hn : 0 < n.toInt) (hx : ∃ R : Nat, 0 < R ∧ R ≤ 65536 ∧ DInt (R : Int) x) : HopOk n x ∧ Jvm.FP.dcmp (hop n x) 0 = some .gt := by
  obtain ⟨N, n0, en⟩ := nat_of hn
  obtain ⟨R, r0, r1, hx⟩ := hx
  have := n.toInt_lt
  obtain ⟨ok, v⟩ := hopV en n0 (by omega) hx r0 (by omega)
  obtain ⟨c, k, h1, -, -, -, h⟩ := shifted (A := N * 8) (B := R * 1000000) (by omega) (by omega) (by omega) (by omega)
  exact ⟨ok, pos_of (v.trans (h 0 (by decide) (by decide))) (by omega)⟩
theorem own_rest {q : Int32} {x : UInt64} (hq : 0 < q.toInt ∧ q.toInt < 1073741824) (hx : ∃ R : Nat, 0 < R ∧ R ≤ 65536 ∧ DInt (R : Int) x) :
    (HopOk (2 * q) x ∧ NoNaN64 (Jvm.FP.dmul 4611686018427387904 (hop q x)) ∧ Jvm.FP.dcmp (hop (2 * q) x) (Jvm.FP.dmul 4611686018427387904 (hop q x)) = some .eq) ∧
    (NoNaN64 (Jvm.FP.dmul 4611686018427387904 x) ∧ HopOk q (Jvm.FP.dmul 4611686018427387904 x) ∧ NoNaN64 (Jvm.FP.ddiv (hop q x) 4611686018427387904) ∧ Jvm.FP.dcmp (hop q (Jvm.FP.dmul 4611686018427387904 x)) (Jvm.FP.ddiv (hop q x) 4611686018427387904) = some .eq) ∧
    (HopOk (q + 1) x ∧ Jvm.FP.dcmp (hop (q + 1) x) (hop q x) = some .gt) ∧
    (NoNaN64 (Jvm.FP.dadd x 4607182418800017408) ∧ HopOk q (Jvm.FP.dadd x 4607182418800017408) ∧ Jvm.FP.dcmp (hop q (Jvm.FP.dadd x 4607182418800017408)) (hop q x) = some .lt) := by
  obtain ⟨N, n0, en⟩ := nat_of hq.1
  obtain ⟨R, r0, r1, hx⟩ := hx
  have hN : N < 1073741824 := by omega
  obtain ⟨ok, v⟩ := hopV en n0 (by omega) hx r0 (by omega)
  obtain ⟨c, k, h1, h2, h3, h4, h⟩ := shifted (A := N * 8) (B := R * 1000000) (by omega) (by omega) (by omega) (by omega)
  have v0 : val64 (hop q x) = .fin false c k := by rw [v, h 0 (by decide) (by decide), Int.add_zero]
  refine ⟨?_, ?_, ?_, ?_⟩
  · have e1 : (2 * q).toInt = ((2 * N : Nat) : Int) := by
      rw [Int32.toInt_mul, show (2 : Int32).toInt = 2 from rfl, en]; exact Int.bmod_eq_of_le (by omega) (by omega)
    obtain ⟨ok1, w⟩ := hopV e1 (by omega) (by omega) hx r0 (by omega)
    have t := twice v0 h1 h2 h3 h4
    refine ⟨ok1, d_fin t, eq_of ?_ t⟩
    rw [w, ← h 1 (by decide) (by decide)]
    refine roundRatio_congr (by omega) (by omega) ?_
    rw [show ((0 : Int) - 1).toNat = 0 by decide, show ((1 : Int) - 0).toNat = 1 by decide, Nat.pow_zero, Nat.pow_one, Nat.mul_one]
    ac_rfl
  · have x2 : DInt ((2 * R : Nat) : Int) (Jvm.FP.dmul 4611686018427387904 x) := mulN k2 hx (by omega)
    obtain ⟨ok1, w⟩ := hopV en n0 (by omega) x2 (by omega) (by omega)
    have t := half v0 h1 h2 h3 h4
    refine ⟨d_int x2, ok1, d_fin t, eq_of ?_ t⟩
    have hh := h (-1) (by decide) (by decide)
    rw [w, show k - 1 = k + -1 by omega, ← hh]
    refine roundRatio_congr (by omega) (by omega) ?_
    rw [show ((0 : Int) - -1).toNat = 1 by decide, show ((-1 : Int) - 0).toNat = 0 by decide, Nat.pow_zero, Nat.pow_one, Nat.mul_one]
    ac_rfl
  · have e1 : (q + 1).toInt = ((N + 1 : Nat) : Int) := by
      rw [Int32.toInt_add, show (1 : Int32).toInt = 1 from rfl, en]; exact Int.bmod_eq_of_le (by omega) (by omega)
    obtain ⟨ok1, w⟩ := hopV e1 (by omega) (by omega) hx r0 (by omega)
    obtain ⟨c', k', -, -, -, -, g⟩ := shifted (A := (N + 1) * 8) (B := R * 1000000) (by omega) (by omega) (by omega) (by omega)
    refine ⟨ok1, gt_of (w.trans (g 0 (by decide) (by decide))) v0 ?_⟩
    rw [w, v]
    refine strict (by omega) (by omega) (by omega) (by omega) (by omega) ?_
    rw [Nat.mul_right_comm (N * 8), Nat.mul_right_comm ((N + 1) * 8)]
    exact Nat.mul_le_mul_right _ (by omega)
  · have x2 : DInt ((R + 1 : Nat) : Int) (Jvm.FP.dadd x 4607182418800017408) := by
      have z := dadd_int hx k1 (by omega)
      rw [← Int.natCast_add] at z; exact z
    obtain ⟨ok1, w⟩ := hopV en n0 (by omega) x2 (by omega) (by omega)
    obtain ⟨c', k', -, -, -, -, g⟩ := shifted (A := N * 8) (B := (R + 1) * 1000000) (by omega) (by omega) (by omega) (by omega)
    refine ⟨d_int x2, ok1, lt_of (w.trans (g 0 (by decide) (by decide))) v0 ?_⟩
    rw [w, v]
    refine strict (by omega) (by omega) (by omega) (by omega) (by omega) ?_
    rw [Nat.mul_assoc (N * 8), Nat.mul_assoc (N * 8)]
    exact Nat.mul_le_mul_left _ (by omega)
end Jvm.OwnF
namespace Jvm.Pilot.@@N@@
open Jvm Jvm.ClassFile Sem Op Lib Jvm.Free Jvm.Stand Jvm.LawKit Jvm.RoadKit Bundle Jvm.Pilot.@@N@@.Jvm.D Jvm.EKit
theorem own_shr (x : Int32) (h : 0 ≤ x.toInt) : ((x.toUInt32 >>> ((1 : Int32) &&& 31).toUInt32).toInt32).toInt = x.toInt / 2 := by
  have e := c_iushr x 1 1 (by decide) (by decide)
  have := rng32 x
  rw [e]
  omega
def own_max (x y : Int32) : Int32 := if x < y then y else x
theorem ef_rm1 (m : MethodId) (x0 : Int32) (x1 : Int32) : entryFrame m #[(.int x0), (.int x1)] 2 = mkF m 0 #[.val (.int x0), .val (.int x1)] [] := by first | (simp [entryFrame, mkF, argsToLocals, Value.category]; done) | rfl
theorem d1_0 : decode jdk_29_method_65_code 0 = .ok (.iload_n 0, 1) := by decide +kernel
theorem d1_1 : decode jdk_29_method_65_code 1 = .ok (.iload_n 1, 1) := by decide +kernel
theorem d1_2 : decode jdk_29_method_65_code 2 = .ok (.if_icmp .lt 7, 3) := by decide +kernel
theorem d1_9 : decode jdk_29_method_65_code 9 = .ok (.iload_n 1, 1) := by decide +kernel
theorem d1_10 : decode jdk_29_method_65_code 10 = .ok (.ireturn, 1) := by decide +kernel
theorem d1_5 : decode jdk_29_method_65_code 5 = .ok (.iload_n 0, 1) := by decide +kernel
theorem d1_6 : decode jdk_29_method_65_code 6 = .ok (.goto 4, 3) := by decide +kernel
set_option maxRecDepth 65536 in
set_option maxHeartbeats 40000000 in
theorem rm1 (l : Launch) (Z : State) (a0 : Array Value) (hw : ∀ d ∈ tables_1, d.before a0 Z = true) (ws : List Jvm.Cond) (p0 : Int32) (p1 : Int32) (h0 : Heap)  :
    Pays l Z (⟨"java/lang/Math", "max", "(II)I"⟩ : MethodName) jdk_29_method_65_code 2 (some .int) ws ({ frames := 0, cells := 0, slots := 0, locals := 0 } : Room) #[(.int p0), (.int p1)] h0 (RetQ (some (.int (own_max p0 p1))) h0) := by
  refine EKit.pays (Jvm.Free.JP.mathPlain rfl (by decide +kernel)) (fun m => ef_rm1 m p0 p1) ?_
  intro p e s m below meth c s₁ hx hby hml hZ hown hnm hret X0 e0 hs0
  refine EKit.iloadN X0 hx rfl (hb hby d1_0) (q := 1) rfl ?_
  refine EKit.iloadN X0 hx rfl (hb hby d1_1) (q := 2) rfl ?_
  by_cases h2 : p0 < p1
  · skip
    refine EKit.icmpYes X0 hx ((tlt h2).1) (hb hby d1_2) (by decide) (q := 9) (by decide) ?_
    refine EKit.iloadN X0 hx rfl (hb hby d1_9) (q := 10) rfl ?_
    exact EKit.retI X0 hx hret (hb hby d1_10) (⟨by simp [own_max, h2], e0, rfl⟩) (by decide) (by decide)
  · skip
    refine EKit.icmpNo X0 hx ((flt h2).1) (hb hby d1_2) (q := 5) rfl ?_
    refine EKit.iloadN X0 hx rfl (hb hby d1_5) (q := 6) rfl ?_
    refine EKit.goto X0 hx (hb hby d1_6) (by decide) (q := 10) (by decide) ?_
    exact EKit.retI X0 hx hret (hb hby d1_10) (⟨by simp [own_max, h2], e0, rfl⟩) (by decide) (by decide)
theorem ef_rm2 (m : MethodId) (x0 : Int32) (x1 : UInt64) : entryFrame m #[(.int x0), (.double x1)] 3 = mkF m 0 #[.val (.int x0), .val (.double x1), .second] [] := by first | (simp [entryFrame, mkF, argsToLocals, Value.category]; done) | rfl
theorem pn_com_example_kerbstone_kerbstone_model_CarryAndForward : plainName "com/example/kerbstone/kerbstone/model/CarryAndForward" = true := by first | (simp [plainName, overriddenIn]; done) | decide +kernel
theorem d2_0 : decode prog_10_method_2_code 0 = .ok (.iload_n 0, 1) := by decide +kernel
theorem d2_1 : decode prog_10_method_2_code 1 = .ok (.i2d, 1) := by decide +kernel
theorem d2_2 : decode prog_10_method_2_code 2 = .ok (.ldc2_w 7, 3) := by decide +kernel
theorem d2_5 : decode prog_10_method_2_code 5 = .ok (.dmul, 1) := by decide +kernel
theorem d2_6 : decode prog_10_method_2_code 6 = .ok (.dload_n 1, 1) := by decide +kernel
theorem d2_7 : decode prog_10_method_2_code 7 = .ok (.ldc2_w 9, 3) := by decide +kernel
theorem d2_10 : decode prog_10_method_2_code 10 = .ok (.dmul, 1) := by decide +kernel
theorem d2_11 : decode prog_10_method_2_code 11 = .ok (.ddiv, 1) := by decide +kernel
theorem d2_12 : decode prog_10_method_2_code 12 = .ok (.dreturn, 1) := by decide +kernel
set_option maxRecDepth 65536 in
set_option maxHeartbeats 40000000 in
theorem rm2 (l : Launch) (Z : State) (a0 : Array Value) (hw : ∀ d ∈ tables_1, d.before a0 Z = true) (ws : List Jvm.Cond) (p0 : Int32) (d1 : UInt64) (h0 : Heap) (ok : OwnF.HopOk p0 d1) :
    Pays l Z (⟨"com/example/kerbstone/kerbstone/model/CarryAndForward", "hopTime", "(ID)D"⟩ : MethodName) prog_10_method_2_code 3 (some .double) ws ({ frames := 0, cells := 0, slots := 0, locals := 0 } : Room) #[(.int p0), (.double d1)] h0 (RetQ (some (.double (OwnF.hop p0 d1))) h0) := by
  refine EKit.pays (plainFor_of_name pn_com_example_kerbstone_kerbstone_model_CarryAndForward) (fun m => ef_rm2 m p0 d1) ?_
  intro p e s m below meth c s₁ hx hby hml hZ hown hnm hret X0 e0 hs0
  refine EKit.iloadN X0 hx rfl (hb hby d2_0) (q := 1) rfl ?_
  refine EKit.i2d X0 hx  (hb hby d2_1) (q := 2) rfl ?_
  refine EKit.ldc2Double X0 hx hZ hown (hw _ (List.mem_of_getElem? (i := 11) rfl)) (hb hby d2_2) (q := 5) rfl ?_
  refine EKit.dmul X0 hx (ok.1) (hb hby d2_5) (q := 6) rfl ?_
  refine EKit.dloadN X0 hx rfl (hb hby d2_6) (q := 7) rfl ?_
  refine EKit.ldc2Double X0 hx hZ hown (hw _ (List.mem_of_getElem? (i := 12) rfl)) (hb hby d2_7) (q := 10) rfl ?_
  refine EKit.dmul X0 hx (ok.2.1) (hb hby d2_10) (q := 11) rfl ?_
  refine EKit.ddiv X0 hx (ok.2.2) (hb hby d2_11) (q := 12) rfl ?_
  exact EKit.retD X0 hx hret (hb hby d2_12) (⟨rfl, e0, rfl⟩) (by decide) (by decide)
theorem own_ok (a b c d : Int32) : OwnF.Ok (own_max (1 : Int32) (((a &&& (2147483647 : Int32)).toUInt32 >>> ((1 : Int32) &&& 31).toUInt32).toInt32)) (own_max (1 : Int32) (a &&& (2147483647 : Int32))) (FP.i2d ((b &&& (65535 : Int32)) + (1 : Int32))) ((c &&& (127 : Int32)) + (1 : Int32)) ((d &&& (127 : Int32)) + (1 : Int32)) := by
  have ha := c_mask a 2147483647 31 (by decide) (by decide +kernel)
  have hb := c_mask b 65535 16 (by decide) (by decide +kernel)
  have hc := c_mask c 127 7 (by decide) (by decide +kernel)
  have hd := c_mask d 127 7 (by decide) (by decide +kernel)
  have mx : ∀ x y : Int32, (own_max x y).toInt = max x.toInt y.toInt := fun x y => by
    unfold own_max; split <;> rename_i h <;> rw [Int32.lt_iff_toInt_lt] at h <;> omega
  have inc : ∀ x : Int32, 0 ≤ x.toInt → x.toInt < 65536 → (x + 1).toInt = x.toInt + 1 := fun x h1 h2 => by
    rw [Int32.toInt_add, show (1 : Int32).toInt = 1 from rfl]; exact Int.bmod_eq_of_le (by omega) (by omega)
  have one : (1 : Int32).toInt = 1 := rfl
  have sh : (((a &&& (2147483647 : Int32)).toUInt32 >>> ((1 : Int32) &&& 31).toUInt32).toInt32).toInt = (a &&& 2147483647).toInt / 2 := own_shr _ (by omega)
  have eb := inc (b &&& 65535) (by omega) (by omega)
  have ec := inc (c &&& 127) (by omega) (by omega)
  have ed := inc (d &&& 127) (by omega) (by omega)
  refine ⟨?_, ?_, ⟨(b &&& 65535).toInt.toNat + 1, by omega, by omega, ?_⟩, ?_, ?_⟩
  · rw [mx, sh, one]; omega
  · rw [mx, one]; omega
  · have z := FP.Core.i2d_int ((b &&& 65535) + 1)
    rw [eb] at z
    rw [show (((b &&& 65535).toInt.toNat + 1 : Nat) : Int) = (b &&& 65535).toInt + 1 by omega]; exact z
  · rw [ec]; omega
  · rw [ed]; omega
theorem ef_rm0 (m : MethodId) (x0 : Int32) (x1 : Int32) (x2 : Int32) (x3 : Int32) : entryFrame m #[(.int x0), (.int x1), (.int x2), (.int x3)] maxLocals = mkF m 0 #[.val (.int x0), .val (.int x1), .val (.int x2), .val (.int x3), .unset, .unset, .unset, .unset, .unset, .unset, .unset, .unset, .unset, .unset, .unset, .unset, .unset, .unset] [] := by first | (simp [entryFrame, mkF, argsToLocals, Value.category, maxLocals]; done) | rfl
theorem pn_com_example_kerbstone_kerbstone_model_CarryAndForwardHopTimePinLaw : plainName "com/example/kerbstone/kerbstone/model/CarryAndForwardHopTimePinLaw" = true := by first | (simp [plainName, overriddenIn]; done) | decide +kernel
theorem pd__II_I : parseMethodDescriptor "(II)I" = some ⟨[.int, .int], some .int⟩ := by decide +kernel
theorem pd__ID_D : parseMethodDescriptor "(ID)D" = some ⟨[.int, .double], some .double⟩ := by decide +kernel
set_option maxRecDepth 65536 in
set_option maxHeartbeats 40000000 in
theorem rm0 (l : Launch) (Z : State) (a0 : Array Value) (hw : ∀ d ∈ tables_1, d.before a0 Z = true) (ws : List Jvm.Cond) (p0 : Int32) (p1 : Int32) (p2 : Int32) (p3 : Int32) (h0 : Heap)  :
    Pays l Z x code maxLocals ret ws room_1 #[(.int p0), (.int p1), (.int p2), (.int p3)] h0 (fun v h L => v = some (.int (1 : Int32)) ∧ Fr h0.size L) := by
  refine EKit.pays (plainFor_of_name pn_com_example_kerbstone_kerbstone_model_CarryAndForwardHopTimePinLaw) (fun m => ef_rm0 m p0 p1 p2 p3) ?_
  intro p e s m below meth c s₁ hx hby hml hZ hown hnm hret X0 e0 hs0
  refine EKit.iconst X0 hx (v := (1 : Int32)) rfl (hb hby at_0) (q := 1) rfl ?_
  refine EKit.iloadN X0 hx rfl (hb hby at_1) (q := 2) rfl ?_
  refine EKit.ldcInt X0 hx hZ hown (hw _ (List.mem_of_getElem? (i := 0) rfl)) (hb hby at_2) (q := 4) rfl ?_
  refine EKit.iand X0 hx  (hb hby at_4) (q := 5) rfl ?_
  refine EKit.iconst X0 hx (v := (1 : Int32)) rfl (hb hby at_5) (q := 6) rfl ?_
  refine EKit.iushr X0 hx  (hb hby at_6) (q := 7) rfl ?_
  refine EKit.callS X0 hx hZ hown e0 (y := (⟨"java/lang/Math", "max", "(II)I"⟩ : MethodName)) (hw _ (List.mem_of_getElem? (i := 1) rfl)) (hw _ (List.mem_of_getElem? (i := 2) rfl)) (hw _ (List.mem_of_getElem? (i := 3) rfl)) (hw _ (List.mem_of_getElem? (i := 4) rfl)) (by decide) (argsL := [(.int (1 : Int32)), (.int (((p0 &&& (2147483647 : Int32)).toUInt32 >>> ((1 : Int32) &&& 31).toUInt32).toInt32))]) (rm1 l Z a0 hw [] (1 : Int32) (((p0 &&& (2147483647 : Int32)).toUInt32 >>> ((1 : Int32) &&& 31).toUInt32).toInt32) h0 ) (rest := []) (by rw [hml]; rfl) pd__II_I rfl (W := 0) (Nat.le_of_eq rfl) (by decide) (by decide) (by decide) (by decide) rfl (hb hby at_7) (q := 10) rfl ?_
  intro T1 v1 L1 X1 hQ1
  obtain ⟨X1, e1, ev1⟩ := EKit.pureK X1 hQ1
  subst ev1
  show EKit.Ends p l e room_1 s m #[(.int p0), (.int p1), (.int p2), (.int p3)] below meth c room_1.cells room_1.slots (fun v h L => v = some (.int (1 : Int32)) ∧ Fr h0.size L) T1 (mkF m 10 #[.val (.int p0), .val (.int p1), .val (.int p2), .val (.int p3), .unset, .unset, .unset, .unset, .unset, .unset, .unset, .unset, .unset, .unset, .unset, .unset, .unset, .unset] [(.int (own_max (1 : Int32) (((p0 &&& (2147483647 : Int32)).toUInt32 >>> ((1 : Int32) &&& 31).toUInt32).toInt32)))])
  refine EKit.istore X1 hx (l' := #[.val (.int p0), .val (.int p1), .val (.int p2), .val (.int p3), .val (.int (own_max (1 : Int32) (((p0 &&& (2147483647 : Int32)).toUInt32 >>> ((1 : Int32) &&& 31).toUInt32).toInt32))), .unset, .unset, .unset, .unset, .unset, .unset, .unset, .unset, .unset, .unset, .unset, .unset, .unset]) rfl (hb hby at_10) (q := 12) rfl ?_
  refine EKit.iconst X1 hx (v := (1 : Int32)) rfl (hb hby at_12) (q := 13) rfl ?_
  refine EKit.iloadN X1 hx rfl (hb hby at_13) (q := 14) rfl ?_
  refine EKit.ldcInt X1 hx hZ hown (hw _ (List.mem_of_getElem? (i := 0) rfl)) (hb hby at_14) (q := 16) rfl ?_
  refine EKit.iand X1 hx  (hb hby at_16) (q := 17) rfl ?_
  refine EKit.callS X1 hx hZ hown e1 (y := (⟨"java/lang/Math", "max", "(II)I"⟩ : MethodName)) (hw _ (List.mem_of_getElem? (i := 1) rfl)) (hw _ (List.mem_of_getElem? (i := 2) rfl)) (hw _ (List.mem_of_getElem? (i := 3) rfl)) (hw _ (List.mem_of_getElem? (i := 4) rfl)) (by decide) (argsL := [(.int (1 : Int32)), (.int (p0 &&& (2147483647 : Int32)))]) (rm1 l Z a0 hw [] (1 : Int32) (p0 &&& (2147483647 : Int32)) h0 ) (rest := []) (by rw [hml]; rfl) pd__II_I rfl (W := 0) (Nat.le_of_eq rfl) (by decide) (by decide) (by decide) (by decide) rfl (hb hby at_17) (q := 20) rfl ?_
  intro T2 v2 L2 X2 hQ2
  obtain ⟨X2, e2, ev2⟩ := EKit.pureK X2 hQ2
  subst ev2
  show EKit.Ends p l e room_1 s m #[(.int p0), (.int p1), (.int p2), (.int p3)] below meth c room_1.cells room_1.slots (fun v h L => v = some (.int (1 : Int32)) ∧ Fr h0.size L) T2 (mkF m 20 #[.val (.int p0), .val (.int p1), .val (.int p2), .val (.int p3), .val (.int (own_max (1 : Int32) (((p0 &&& (2147483647 : Int32)).toUInt32 >>> ((1 : Int32) &&& 31).toUInt32).toInt32))), .unset, .unset, .unset, .unset, .unset, .unset, .unset, .unset, .unset, .unset, .unset, .unset, .unset] [(.int (own_max (1 : Int32) (p0 &&& (2147483647 : Int32))))])
  refine EKit.istore X2 hx (l' := #[.val (.int p0), .val (.int p1), .val (.int p2), .val (.int p3), .val (.int (own_max (1 : Int32) (((p0 &&& (2147483647 : Int32)).toUInt32 >>> ((1 : Int32) &&& 31).toUInt32).toInt32))), .val (.int (own_max (1 : Int32) (p0 &&& (2147483647 : Int32)))), .unset, .unset, .unset, .unset, .unset, .unset, .unset, .unset, .unset, .unset, .unset, .unset]) rfl (hb hby at_20) (q := 22) rfl ?_
  refine EKit.iloadN X2 hx rfl (hb hby at_22) (q := 23) rfl ?_
  refine EKit.ldcInt X2 hx hZ hown (hw _ (List.mem_of_getElem? (i := 5) rfl)) (hb hby at_23) (q := 25) rfl ?_
  refine EKit.iand X2 hx  (hb hby at_25) (q := 26) rfl ?_
  refine EKit.iconst X2 hx (v := (1 : Int32)) rfl (hb hby at_26) (q := 27) rfl ?_
  refine EKit.iadd X2 hx  (hb hby at_27) (q := 28) rfl ?_
  refine EKit.i2d X2 hx  (hb hby at_28) (q := 29) rfl ?_
  refine EKit.dstore X2 hx (l' := #[.val (.int p0), .val (.int p1), .val (.int p2), .val (.int p3), .val (.int (own_max (1 : Int32) (((p0 &&& (2147483647 : Int32)).toUInt32 >>> ((1 : Int32) &&& 31).toUInt32).toInt32))), .val (.int (own_max (1 : Int32) (p0 &&& (2147483647 : Int32)))), .val (.double (FP.i2d ((p1 &&& (65535 : Int32)) + (1 : Int32)))), .second, .unset, .unset, .unset, .unset, .unset, .unset, .unset, .unset, .unset, .unset]) rfl (hb hby at_29) (q := 31) rfl ?_
  have J47_3 : ∀ (TJ3 : State) (XJ3 : Stand p l e room_1 s m #[(.int p0), (.int p1), (.int p2), (.int p3)] below meth c TJ3 [] 0 0) (eJ3 : TJ3.heap = h0) (q : Int32) (pp : Int32) (r : UInt64) (mm : Int32) (jj : Int32) (hj47 : OwnF.Ok q pp r mm jj), EKit.Ends p l e room_1 s m #[(.int p0), (.int p1), (.int p2), (.int p3)] below meth c room_1.cells room_1.slots (fun v h L => v = some (.int (1 : Int32)) ∧ Fr h0.size L) TJ3 (mkF m 47 #[.val (.int p0), .val (.int p1), .val (.int p2), .val (.int p3), .val (.int q), .val (.int pp), .val (.double r), .second, .val (.int mm), .val (.int jj), .unset, .unset, .unset, .unset, .unset, .unset, .unset, .unset] []) := by
    intro TJ3 XJ3 eJ3 q pp r mm jj hj47
    have rs := OwnF.own_rest hj47.1 hj47.2.2.1
    refine EKit.ldcInt XJ3 hx hZ hown (hw _ (List.mem_of_getElem? (i := 6) rfl)) (hb hby at_47) (q := 49) rfl ?_
    refine EKit.iload XJ3 hx rfl (hb hby at_49) (q := 51) rfl ?_
    refine EKit.imul XJ3 hx  (hb hby at_51) (q := 52) rfl ?_
    refine EKit.iload XJ3 hx rfl (hb hby at_52) (q := 54) rfl ?_
    refine EKit.imul XJ3 hx  (hb hby at_54) (q := 55) rfl ?_
    refine EKit.iload XJ3 hx rfl (hb hby at_55) (q := 57) rfl ?_
    refine EKit.i2d XJ3 hx  (hb hby at_57) (q := 58) rfl ?_
    refine EKit.callS XJ3 hx hZ hown eJ3 (y := (⟨"com/example/kerbstone/kerbstone/model/CarryAndForward", "hopTime", "(ID)D"⟩ : MethodName)) (hw _ (List.mem_of_getElem? (i := 7) rfl)) (hw _ (List.mem_of_getElem? (i := 8) rfl)) (hw _ (List.mem_of_getElem? (i := 9) rfl)) (hw _ (List.mem_of_getElem? (i := 10) rfl)) (by decide) (argsL := [(.int (((125000 : Int32) * mm) * jj)), (.double (FP.i2d jj))]) (rm2 l Z a0 hw [] (((125000 : Int32) * mm) * jj) (FP.i2d jj) h0 ((OwnF.own_exact hj47.2.2.2.1 hj47.2.2.2.2).1)) (rest := []) (by rw [hml]; rfl) pd__ID_D rfl (W := 0) (Nat.le_of_eq rfl) (by decide) (by decide) (by decide) (by decide) rfl (hb hby at_58) (q := 61) rfl ?_
    intro T4 v4 L4 X4 hQ4
    obtain ⟨X4, e4, ev4⟩ := EKit.pureK X4 hQ4
    subst ev4
    show EKit.Ends p l e room_1 s m #[(.int p0), (.int p1), (.int p2), (.int p3)] below meth c room_1.cells room_1.slots (fun v h L => v = some (.int (1 : Int32)) ∧ Fr h0.size L) T4 (mkF m 61 #[.val (.int p0), .val (.int p1), .val (.int p2), .val (.int p3), .val (.int q), .val (.int pp), .val (.double r), .second, .val (.int mm), .val (.int jj), .unset, .unset, .unset, .unset, .unset, .unset, .unset, .unset] [(.double (OwnF.hop (((125000 : Int32) * mm) * jj) (FP.i2d jj)))])
    refine EKit.iload X4 hx rfl (hb hby at_61) (q := 63) rfl ?_
    refine EKit.i2d X4 hx  (hb hby at_63) (q := 64) rfl ?_
    refine EKit.dcmpK X4 hx (v := (0 : Int32)) (by rw [(OwnF.own_exact hj47.2.2.2.1 hj47.2.2.2.2).2]; rfl) (hb hby at_64) (q := 65) rfl ?_
    have h65 : (0 : Int32) = (0 : Int32) := by decide
    refine EKit.ifNo X4 hx (EKit.c_t (teq h65).2) (hb hby at_65) (q := 68) rfl ?_
    refine EKit.iconst X4 hx (v := (1 : Int32)) rfl (hb hby at_68) (q := 69) rfl ?_
    refine EKit.goto X4 hx (hb hby at_69) (by decide) (q := 73) (by decide) ?_
    refine EKit.istore X4 hx (l' := #[.val (.int p0), .val (.int p1), .val (.int p2), .val (.int p3), .val (.int q), .val (.int pp), .val (.double r), .second, .val (.int mm), .val (.int jj), .val (.int (1 : Int32)), .unset, .unset, .unset, .unset, .unset, .unset, .unset]) rfl (hb hby at_73) (q := 75) rfl ?_
    refine EKit.iload X4 hx rfl (hb hby at_75) (q := 77) rfl ?_
    refine EKit.dload X4 hx rfl (hb hby at_77) (q := 79) rfl ?_
    refine EKit.callS X4 hx hZ hown e4 (y := (⟨"com/example/kerbstone/kerbstone/model/CarryAndForward", "hopTime", "(ID)D"⟩ : MethodName)) (hw _ (List.mem_of_getElem? (i := 7) rfl)) (hw _ (List.mem_of_getElem? (i := 8) rfl)) (hw _ (List.mem_of_getElem? (i := 9) rfl)) (hw _ (List.mem_of_getElem? (i := 10) rfl)) (by decide) (argsL := [(.int q), (.double r)]) (rm2 l Z a0 hw [] q r h0 ((OwnF.own_pos hj47.1.1 hj47.2.2.1).1)) (rest := []) (by rw [hml]; rfl) pd__ID_D rfl (W := 0) (Nat.le_of_eq rfl) (by decide) (by decide) (by decide) (by decide) rfl (hb hby at_79) (q := 82) rfl ?_
    intro T5 v5 L5 X5 hQ5
    obtain ⟨X5, e5, ev5⟩ := EKit.pureK X5 hQ5
    subst ev5
    show EKit.Ends p l e room_1 s m #[(.int p0), (.int p1), (.int p2), (.int p3)] below meth c room_1.cells room_1.slots (fun v h L => v = some (.int (1 : Int32)) ∧ Fr h0.size L) T5 (mkF m 82 #[.val (.int p0), .val (.int p1), .val (.int p2), .val (.int p3), .val (.int q), .val (.int pp), .val (.double r), .second, .val (.int mm), .val (.int jj), .val (.int (1 : Int32)), .unset, .unset, .unset, .unset, .unset, .unset, .unset] [(.double (OwnF.hop q r))])
    refine EKit.dstore X5 hx (l' := #[.val (.int p0), .val (.int p1), .val (.int p2), .val (.int p3), .val (.int q), .val (.int pp), .val (.double r), .second, .val (.int mm), .val (.int jj), .val (.int (1 : Int32)), .val (.double (OwnF.hop q r)), .second, .unset, .unset, .unset, .unset, .unset]) rfl (hb hby at_82) (q := 84) rfl ?_
    refine EKit.dload X5 hx rfl (hb hby at_84) (q := 86) rfl ?_
    refine EKit.dconst0 X5 hx  (hb hby at_86) (q := 87) rfl ?_
    refine EKit.dcmpK X5 hx (v := (1 : Int32)) (by rw [(OwnF.own_pos hj47.1.1 hj47.2.2.1).2]; rfl) (hb hby at_87) (q := 88) rfl ?_
    have h88 : (0 : Int32) < (1 : Int32) := by decide
    refine EKit.ifNo X5 hx (EKit.c_t (tlt h88).2.2.2) (hb hby at_88) (q := 91) rfl ?_
    refine EKit.iload X5 hx rfl (hb hby at_91) (q := 93) rfl ?_
    refine EKit.dload X5 hx rfl (hb hby at_93) (q := 95) rfl ?_
    refine EKit.callS X5 hx hZ hown e5 (y := (⟨"com/example/kerbstone/kerbstone/model/CarryAndForward", "hopTime", "(ID)D"⟩ : MethodName)) (hw _ (List.mem_of_getElem? (i := 7) rfl)) (hw _ (List.mem_of_getElem? (i := 8) rfl)) (hw _ (List.mem_of_getElem? (i := 9) rfl)) (hw _ (List.mem_of_getElem? (i := 10) rfl)) (by decide) (argsL := [(.int pp), (.double r)]) (rm2 l Z a0 hw [] pp r h0 ((OwnF.own_pos hj47.2.1 hj47.2.2.1).1)) (rest := []) (by rw [hml]; rfl) pd__ID_D rfl (W := 0) (Nat.le_of_eq rfl) (by decide) (by decide) (by decide) (by decide) rfl (hb hby at_95) (q := 98) rfl ?_
    intro T6 v6 L6 X6 hQ6
    obtain ⟨X6, e6, ev6⟩ := EKit.pureK X6 hQ6
    subst ev6
    show EKit.Ends p l e room_1 s m #[(.int p0), (.int p1), (.int p2), (.int p3)] below meth c room_1.cells room_1.slots (fun v h L => v = some (.int (1 : Int32)) ∧ Fr h0.size L) T6 (mkF m 98 #[.val (.int p0), .val (.int p1), .val (.int p2), .val (.int p3), .val (.int q), .val (.int pp), .val (.double r), .second, .val (.int mm), .val (.int jj), .val (.int (1 : Int32)), .val (.double (OwnF.hop q r)), .second, .unset, .unset, .unset, .unset, .unset] [(.double (OwnF.hop pp r))])
    refine EKit.dconst0 X6 hx  (hb hby at_98) (q := 99) rfl ?_
    refine EKit.dcmpK X6 hx (v := (1 : Int32)) (by rw [(OwnF.own_pos hj47.2.1 hj47.2.2.1).2]; rfl) (hb hby at_99) (q := 100) rfl ?_
    have h100 : (0 : Int32) < (1 : Int32) := by decide
    refine EKit.ifNo X6 hx (EKit.c_t (tlt h100).2.2.2) (hb hby at_100) (q := 103) rfl ?_
    refine EKit.iconst X6 hx (v := (1 : Int32)) rfl (hb hby at_103) (q := 104) rfl ?_
    refine EKit.goto X6 hx (hb hby at_104) (by decide) (q := 108) (by decide) ?_
    refine EKit.istore X6 hx (l' := #[.val (.int p0), .val (.int p1), .val (.int p2), .val (.int p3), .val (.int q), .val (.int pp), .val (.double r), .second, .val (.int mm), .val (.int jj), .val (.int (1 : Int32)), .val (.double (OwnF.hop q r)), .second, .val (.int (1 : Int32)), .unset, .unset, .unset, .unset]) rfl (hb hby at_108) (q := 110) rfl ?_
    refine EKit.iconst X6 hx (v := (2 : Int32)) rfl (hb hby at_110) (q := 111) rfl ?_
    refine EKit.iload X6 hx rfl (hb hby at_111) (q := 113) rfl ?_
    refine EKit.imul X6 hx  (hb hby at_113) (q := 114) rfl ?_
    refine EKit.dload X6 hx rfl (hb hby at_114) (q := 116) rfl ?_
    refine EKit.callS X6 hx hZ hown e6 (y := (⟨"com/example/kerbstone/kerbstone/model/CarryAndForward", "hopTime", "(ID)D"⟩ : MethodName)) (hw _ (List.mem_of_getElem? (i := 7) rfl)) (hw _ (List.mem_of_getElem? (i := 8) rfl)) (hw _ (List.mem_of_getElem? (i := 9) rfl)) (hw _ (List.mem_of_getElem? (i := 10) rfl)) (by decide) (argsL := [(.int ((2 : Int32) * q)), (.double r)]) (rm2 l Z a0 hw [] ((2 : Int32) * q) r h0 (rs.1.1)) (rest := []) (by rw [hml]; rfl) pd__ID_D rfl (W := 0) (Nat.le_of_eq rfl) (by decide) (by decide) (by decide) (by decide) rfl (hb hby at_116) (q := 119) rfl ?_
    intro T7 v7 L7 X7 hQ7
    obtain ⟨X7, e7, ev7⟩ := EKit.pureK X7 hQ7
    subst ev7
    show EKit.Ends p l e room_1 s m #[(.int p0), (.int p1), (.int p2), (.int p3)] below meth c room_1.cells room_1.slots (fun v h L => v = some (.int (1 : Int32)) ∧ Fr h0.size L) T7 (mkF m 119 #[.val (.int p0), .val (.int p1), .val (.int p2), .val (.int p3), .val (.int q), .val (.int pp), .val (.double r), .second, .val (.int mm), .val (.int jj), .val (.int (1 : Int32)), .val (.double (OwnF.hop q r)), .second, .val (.int (1 : Int32)), .unset, .unset, .unset, .unset] [(.double (OwnF.hop ((2 : Int32) * q) r))])
    refine EKit.ldc2Double X7 hx hZ hown (hw _ (List.mem_of_getElem? (i := 13) rfl)) (hb hby at_119) (q := 122) rfl ?_
    refine EKit.dload X7 hx rfl (hb hby at_122) (q := 124) rfl ?_
    refine EKit.dmul X7 hx (rs.1.2.1) (hb hby at_124) (q := 125) rfl ?_
    refine EKit.dcmpK X7 hx (v := (0 : Int32)) (by rw [rs.1.2.2]; rfl) (hb hby at_125) (q := 126) rfl ?_
    have h126 : (0 : Int32) = (0 : Int32) := by decide
    refine EKit.ifNo X7 hx (EKit.c_t (teq h126).2) (hb hby at_126) (q := 129) rfl ?_
    refine EKit.iconst X7 hx (v := (1 : Int32)) rfl (hb hby at_129) (q := 130) rfl ?_
    refine EKit.goto X7 hx (hb hby at_130) (by decide) (q := 134) (by decide) ?_
    refine EKit.istore X7 hx (l' := #[.val (.int p0), .val (.int p1), .val (.int p2), .val (.int p3), .val (.int q), .val (.int pp), .val (.double r), .second, .val (.int mm), .val (.int jj), .val (.int (1 : Int32)), .val (.double (OwnF.hop q r)), .second, .val (.int (1 : Int32)), .val (.int (1 : Int32)), .unset, .unset, .unset]) rfl (hb hby at_134) (q := 136) rfl ?_
    refine EKit.iload X7 hx rfl (hb hby at_136) (q := 138) rfl ?_
    refine EKit.ldc2Double X7 hx hZ hown (hw _ (List.mem_of_getElem? (i := 13) rfl)) (hb hby at_138) (q := 141) rfl ?_
    refine EKit.dload X7 hx rfl (hb hby at_141) (q := 143) rfl ?_
    refine EKit.dmul X7 hx (rs.2.1.1) (hb hby at_143) (q := 144) rfl ?_
    refine EKit.callS X7 hx hZ hown e7 (y := (⟨"com/example/kerbstone/kerbstone/model/CarryAndForward", "hopTime", "(ID)D"⟩ : MethodName)) (hw _ (List.mem_of_getElem? (i := 7) rfl)) (hw _ (List.mem_of_getElem? (i := 8) rfl)) (hw _ (List.mem_of_getElem? (i := 9) rfl)) (hw _ (List.mem_of_getElem? (i := 10) rfl)) (by decide) (argsL := [(.int q), (.double (FP.dmul (4611686018427387904 : UInt64) r))]) (rm2 l Z a0 hw [] q (FP.dmul (4611686018427387904 : UInt64) r) h0 (rs.2.1.2.1)) (rest := []) (by rw [hml]; rfl) pd__ID_D rfl (W := 0) (Nat.le_of_eq rfl) (by decide) (by decide) (by decide) (by decide) rfl (hb hby at_144) (q := 147) rfl ?_
    intro T8 v8 L8 X8 hQ8
    obtain ⟨X8, e8, ev8⟩ := EKit.pureK X8 hQ8
    subst ev8
    show EKit.Ends p l e room_1 s m #[(.int p0), (.int p1), (.int p2), (.int p3)] below meth c room_1.cells room_1.slots (fun v h L => v = some (.int (1 : Int32)) ∧ Fr h0.size L) T8 (mkF m 147 #[.val (.int p0), .val (.int p1), .val (.int p2), .val (.int p3), .val (.int q), .val (.int pp), .val (.double r), .second, .val (.int mm), .val (.int jj), .val (.int (1 : Int32)), .val (.double (OwnF.hop q r)), .second, .val (.int (1 : Int32)), .val (.int (1 : Int32)), .unset, .unset, .unset] [(.double (OwnF.hop q (FP.dmul (4611686018427387904 : UInt64) r)))])
    refine EKit.dload X8 hx rfl (hb hby at_147) (q := 149) rfl ?_
    refine EKit.ldc2Double X8 hx hZ hown (hw _ (List.mem_of_getElem? (i := 13) rfl)) (hb hby at_149) (q := 152) rfl ?_
    refine EKit.ddiv X8 hx (rs.2.1.2.2.1) (hb hby at_152) (q := 153) rfl ?_
    refine EKit.dcmpK X8 hx (v := (0 : Int32)) (by rw [rs.2.1.2.2.2]; rfl) (hb hby at_153) (q := 154) rfl ?_
    have h154 : (0 : Int32) = (0 : Int32) := by decide
    refine EKit.ifNo X8 hx (EKit.c_t (teq h154).2) (hb hby at_154) (q := 157) rfl ?_
    refine EKit.iconst X8 hx (v := (1 : Int32)) rfl (hb hby at_157) (q := 158) rfl ?_
    refine EKit.goto X8 hx (hb hby at_158) (by decide) (q := 162) (by decide) ?_
    refine EKit.istore X8 hx (l' := #[.val (.int p0), .val (.int p1), .val (.int p2), .val (.int p3), .val (.int q), .val (.int pp), .val (.double r), .second, .val (.int mm), .val (.int jj), .val (.int (1 : Int32)), .val (.double (OwnF.hop q r)), .second, .val (.int (1 : Int32)), .val (.int (1 : Int32)), .val (.int (1 : Int32)), .unset, .unset]) rfl (hb hby at_162) (q := 164) rfl ?_
    refine EKit.iload X8 hx rfl (hb hby at_164) (q := 166) rfl ?_
    refine EKit.iconst X8 hx (v := (1 : Int32)) rfl (hb hby at_166) (q := 167) rfl ?_
    refine EKit.iadd X8 hx  (hb hby at_167) (q := 168) rfl ?_
    refine EKit.dload X8 hx rfl (hb hby at_168) (q := 170) rfl ?_
    refine EKit.callS X8 hx hZ hown e8 (y := (⟨"com/example/kerbstone/kerbstone/model/CarryAndForward", "hopTime", "(ID)D"⟩ : MethodName)) (hw _ (List.mem_of_getElem? (i := 7) rfl)) (hw _ (List.mem_of_getElem? (i := 8) rfl)) (hw _ (List.mem_of_getElem? (i := 9) rfl)) (hw _ (List.mem_of_getElem? (i := 10) rfl)) (by decide) (argsL := [(.int (q + (1 : Int32))), (.double r)]) (rm2 l Z a0 hw [] (q + (1 : Int32)) r h0 (rs.2.2.1.1)) (rest := []) (by rw [hml]; rfl) pd__ID_D rfl (W := 0) (Nat.le_of_eq rfl) (by decide) (by decide) (by decide) (by decide) rfl (hb hby at_170) (q := 173) rfl ?_
    intro T9 v9 L9 X9 hQ9
    obtain ⟨X9, e9, ev9⟩ := EKit.pureK X9 hQ9
    subst ev9
    show EKit.Ends p l e room_1 s m #[(.int p0), (.int p1), (.int p2), (.int p3)] below meth c room_1.cells room_1.slots (fun v h L => v = some (.int (1 : Int32)) ∧ Fr h0.size L) T9 (mkF m 173 #[.val (.int p0), .val (.int p1), .val (.int p2), .val (.int p3), .val (.int q), .val (.int pp), .val (.double r), .second, .val (.int mm), .val (.int jj), .val (.int (1 : Int32)), .val (.double (OwnF.hop q r)), .second, .val (.int (1 : Int32)), .val (.int (1 : Int32)), .val (.int (1 : Int32)), .unset, .unset] [(.double (OwnF.hop (q + (1 : Int32)) r))])
    refine EKit.dload X9 hx rfl (hb hby at_173) (q := 175) rfl ?_
    refine EKit.dcmpK X9 hx (v := (1 : Int32)) (by rw [rs.2.2.1.2]; rfl) (hb hby at_175) (q := 176) rfl ?_
    have h176 : (0 : Int32) < (1 : Int32) := by decide
    refine EKit.ifNo X9 hx (EKit.c_t (tlt h176).2.2.2) (hb hby at_176) (q := 179) rfl ?_
    refine EKit.iconst X9 hx (v := (1 : Int32)) rfl (hb hby at_179) (q := 180) rfl ?_
    refine EKit.goto X9 hx (hb hby at_180) (by decide) (q := 184) (by decide) ?_
    refine EKit.istore X9 hx (l' := #[.val (.int p0), .val (.int p1), .val (.int p2), .val (.int p3), .val (.int q), .val (.int pp), .val (.double r), .second, .val (.int mm), .val (.int jj), .val (.int (1 : Int32)), .val (.double (OwnF.hop q r)), .second, .val (.int (1 : Int32)), .val (.int (1 : Int32)), .val (.int (1 : Int32)), .val (.int (1 : Int32)), .unset]) rfl (hb hby at_184) (q := 186) rfl ?_
    refine EKit.iload X9 hx rfl (hb hby at_186) (q := 188) rfl ?_
    refine EKit.dload X9 hx rfl (hb hby at_188) (q := 190) rfl ?_
    refine EKit.dconst1 X9 hx  (hb hby at_190) (q := 191) rfl ?_
    refine EKit.dadd X9 hx (rs.2.2.2.1) (hb hby at_191) (q := 192) rfl ?_
    refine EKit.callS X9 hx hZ hown e9 (y := (⟨"com/example/kerbstone/kerbstone/model/CarryAndForward", "hopTime", "(ID)D"⟩ : MethodName)) (hw _ (List.mem_of_getElem? (i := 7) rfl)) (hw _ (List.mem_of_getElem? (i := 8) rfl)) (hw _ (List.mem_of_getElem? (i := 9) rfl)) (hw _ (List.mem_of_getElem? (i := 10) rfl)) (by decide) (argsL := [(.int q), (.double (FP.dadd r (4607182418800017408 : UInt64)))]) (rm2 l Z a0 hw [] q (FP.dadd r (4607182418800017408 : UInt64)) h0 (rs.2.2.2.2.1)) (rest := []) (by rw [hml]; rfl) pd__ID_D rfl (W := 0) (Nat.le_of_eq rfl) (by decide) (by decide) (by decide) (by decide) rfl (hb hby at_192) (q := 195) rfl ?_
    intro T10 v10 L10 X10 hQ10
    obtain ⟨X10, e10, ev10⟩ := EKit.pureK X10 hQ10
    subst ev10
    show EKit.Ends p l e room_1 s m #[(.int p0), (.int p1), (.int p2), (.int p3)] below meth c room_1.cells room_1.slots (fun v h L => v = some (.int (1 : Int32)) ∧ Fr h0.size L) T10 (mkF m 195 #[.val (.int p0), .val (.int p1), .val (.int p2), .val (.int p3), .val (.int q), .val (.int pp), .val (.double r), .second, .val (.int mm), .val (.int jj), .val (.int (1 : Int32)), .val (.double (OwnF.hop q r)), .second, .val (.int (1 : Int32)), .val (.int (1 : Int32)), .val (.int (1 : Int32)), .val (.int (1 : Int32)), .unset] [(.double (OwnF.hop q (FP.dadd r (4607182418800017408 : UInt64))))])
    refine EKit.dload X10 hx rfl (hb hby at_195) (q := 197) rfl ?_
    refine EKit.dcmpK X10 hx (v := (-1 : Int32)) (by rw [rs.2.2.2.2.2]; rfl) (hb hby at_197) (q := 198) rfl ?_
    have h198 : (-1 : Int32) < (0 : Int32) := by decide
    refine EKit.ifNo X10 hx (EKit.c_t (tlt h198).2.1) (hb hby at_198) (q := 201) rfl ?_
    refine EKit.iconst X10 hx (v := (1 : Int32)) rfl (hb hby at_201) (q := 202) rfl ?_
    refine EKit.goto X10 hx (hb hby at_202) (by decide) (q := 206) (by decide) ?_
    refine EKit.istore X10 hx (l' := #[.val (.int p0), .val (.int p1), .val (.int p2), .val (.int p3), .val (.int q), .val (.int pp), .val (.double r), .second, .val (.int mm), .val (.int jj), .val (.int (1 : Int32)), .val (.double (OwnF.hop q r)), .second, .val (.int (1 : Int32)), .val (.int (1 : Int32)), .val (.int (1 : Int32)), .val (.int (1 : Int32)), .val (.int (1 : Int32))]) rfl (hb hby at_206) (q := 208) rfl ?_
    refine EKit.iload X10 hx rfl (hb hby at_208) (q := 210) rfl ?_
    have h210 : ¬ ((1 : Int32) = (0 : Int32)) := by decide
    refine EKit.ifNo X10 hx (EKit.c_t (feq h210).1) (hb hby at_210) (q := 213) rfl ?_
    refine EKit.iload X10 hx rfl (hb hby at_213) (q := 215) rfl ?_
    have h215 : ¬ ((1 : Int32) = (0 : Int32)) := by decide
    refine EKit.ifNo X10 hx (EKit.c_t (feq h215).1) (hb hby at_215) (q := 218) rfl ?_
    refine EKit.iload X10 hx rfl (hb hby at_218) (q := 220) rfl ?_
    have h220 : ¬ ((1 : Int32) = (0 : Int32)) := by decide
    refine EKit.ifNo X10 hx (EKit.c_t (feq h220).1) (hb hby at_220) (q := 223) rfl ?_
    refine EKit.iload X10 hx rfl (hb hby at_223) (q := 225) rfl ?_
    have h225 : ¬ ((1 : Int32) = (0 : Int32)) := by decide
    refine EKit.ifNo X10 hx (EKit.c_t (feq h225).1) (hb hby at_225) (q := 228) rfl ?_
    refine EKit.iload X10 hx rfl (hb hby at_228) (q := 230) rfl ?_
    have h230 : ¬ ((1 : Int32) = (0 : Int32)) := by decide
    refine EKit.ifNo X10 hx (EKit.c_t (feq h230).1) (hb hby at_230) (q := 233) rfl ?_
    refine EKit.iload X10 hx rfl (hb hby at_233) (q := 235) rfl ?_
    have h235 : ¬ ((1 : Int32) = (0 : Int32)) := by decide
    refine EKit.ifNo X10 hx (EKit.c_t (feq h235).1) (hb hby at_235) (q := 238) rfl ?_
    refine EKit.iconst X10 hx (v := (1 : Int32)) rfl (hb hby at_238) (q := 239) rfl ?_
    refine EKit.goto X10 hx (hb hby at_239) (by decide) (q := 243) (by decide) ?_
    exact EKit.retZ X10 hx hret (by simp) (hb hby at_243) (⟨rfl, Fr.nil _⟩) (by decide) (by decide)
  refine EKit.iloadN X2 hx rfl (hb hby at_31) (q := 32) rfl ?_
  refine EKit.bipush X2 hx (v := (127 : Int32)) rfl (hb hby at_32) (q := 34) rfl ?_
  refine EKit.iand X2 hx  (hb hby at_34) (q := 35) rfl ?_
  refine EKit.iconst X2 hx (v := (1 : Int32)) rfl (hb hby at_35) (q := 36) rfl ?_
  refine EKit.iadd X2 hx  (hb hby at_36) (q := 37) rfl ?_
  refine EKit.istore X2 hx (l' := #[.val (.int p0), .val (.int p1), .val (.int p2), .val (.int p3), .val (.int (own_max (1 : Int32) (((p0 &&& (2147483647 : Int32)).toUInt32 >>> ((1 : Int32) &&& 31).toUInt32).toInt32))), .val (.int (own_max (1 : Int32) (p0 &&& (2147483647 : Int32)))), .val (.double (FP.i2d ((p1 &&& (65535 : Int32)) + (1 : Int32)))), .second, .val (.int ((p2 &&& (127 : Int32)) + (1 : Int32))), .unset, .unset, .unset, .unset, .unset, .unset, .unset, .unset, .unset]) rfl (hb hby at_37) (q := 39) rfl ?_
  refine EKit.iloadN X2 hx rfl (hb hby at_39) (q := 40) rfl ?_
  refine EKit.bipush X2 hx (v := (127 : Int32)) rfl (hb hby at_40) (q := 42) rfl ?_
  refine EKit.iand X2 hx  (hb hby at_42) (q := 43) rfl ?_
  refine EKit.iconst X2 hx (v := (1 : Int32)) rfl (hb hby at_43) (q := 44) rfl ?_
  refine EKit.iadd X2 hx  (hb hby at_44) (q := 45) rfl ?_
  refine EKit.istore X2 hx (l' := #[.val (.int p0), .val (.int p1), .val (.int p2), .val (.int p3), .val (.int (own_max (1 : Int32) (((p0 &&& (2147483647 : Int32)).toUInt32 >>> ((1 : Int32) &&& 31).toUInt32).toInt32))), .val (.int (own_max (1 : Int32) (p0 &&& (2147483647 : Int32)))), .val (.double (FP.i2d ((p1 &&& (65535 : Int32)) + (1 : Int32)))), .second, .val (.int ((p2 &&& (127 : Int32)) + (1 : Int32))), .val (.int ((p3 &&& (127 : Int32)) + (1 : Int32))), .unset, .unset, .unset, .unset, .unset, .unset, .unset, .unset]) rfl (hb hby at_45) (q := 47) rfl ?_
  exact J47_3 T2 X2 e2 (own_max (1 : Int32) (((p0 &&& (2147483647 : Int32)).toUInt32 >>> ((1 : Int32) &&& 31).toUInt32).toInt32)) (own_max (1 : Int32) (p0 &&& (2147483647 : Int32))) (FP.i2d ((p1 &&& (65535 : Int32)) + (1 : Int32))) ((p2 &&& (127 : Int32)) + (1 : Int32)) ((p3 &&& (127 : Int32)) + (1 : Int32)) (own_ok p0 p1 p2 p3)
set_option maxRecDepth 65536 in
set_option maxHeartbeats 40000000 in
theorem comes_1 {Post : Tables → Env → Array Value → State → Outcome → State → Prop} (hpost : ∀ tb e args s v u, (limb_1_1.after args s (.returned v) u = true ∧ limb_1_2.after args s (.returned v) u = true ∧ True) → FrameEnd s (.returned v) u (Jvm.fieldLocs frame_1_writes args s ++ Jvm.arrayLocs frame_1_arrays args s ++ Jvm.staticLocs frame_1_statics s) 0 0 → Post tb e args s (.returned v) u) :
    ArmFor flags0 classFile x code maxLocals ret World_1 tables_1 room_1 Calls_1 rest_1 Pre_1 Post := by
  intro l hfl _ _ p e ha hc hk s m args below hf hA hF happ hP
  obtain ⟨hcalls, hrest, hpre⟩ := hP
  obtain ⟨-, -, -, hnamed, -, -, -, hat⟩ := (Spec.applies_iff hf).mp happ
  obtain ⟨hg, hn⟩ := and_e (Cond.before_iff.mp (show (Jvm.Cond.and given_1 narrow_1).before args s = true from hpre))
  obtain ⟨g4, g5⟩ := and_e hg
  obtain ⟨g6, g7⟩ := and_e g5
  obtain ⟨g8, g9⟩ := and_e g7
  obtain ⟨g10, g11⟩ := and_e g9
  obtain ⟨w0, w1, w2, w3, rfl⟩ : ∃ w0 w1 w2 w3 : Value, args = #[w0, w1, w2, w3] := by
    have hs : args.size = 4 := by simpa [Cond.value, given_1] using g4
    obtain ⟨L⟩ := args
    match L, hs with
    | [w0, w1, w2, w3], _ => exact ⟨w0, w1, w2, w3, rfl⟩
  have hw := fun d (hd : d ∈ tables_1) => atoms_spec (ws := Jvm.Cond.code x code maxLocals ret :: tables_1) hat d (List.mem_cons_of_mem _ hd)
  obtain ⟨i0, ei0⟩ := is_v g6
  obtain rfl : w0 = (.int i0) := Option.some.inj ei0
  obtain ⟨i1, ei1⟩ := is_v g8
  obtain rfl : w1 = (.int i1) := Option.some.inj ei1
  obtain ⟨i2, ei2⟩ := is_v g10
  obtain rfl : w2 = (.int i2) := Option.some.inj ei2
  obtain ⟨i3, ei3⟩ := is_v g11
  obtain rfl : w3 = (.int i3) := Option.some.inj ei3
  obtain ⟨n, o, h1, h2, h3, _, L, rfl, ⟨rfl, N⟩, hq⟩ := rm0 l s _ hw tables_1 i0 i1 i2 i3 s.heap  p e ha hc hk s m _ below hf ((Spec.applies_iff_loose hf).mp happ).1 ⟨rfl, State.Warmed39.refl s, rfl⟩ trivial
  refine ⟨n, _, h1, h2, h3, hpost _ _ _ _ _ _ ⟨Cond.after_iff.mpr rfl, Cond.after_iff.mpr (eq_i res_at (Term.int_eval (1)) rfl), trivial⟩ ⟨hq.1, hq.2.1, (hq.2.2.sift fun y hy => Or.inr (N y hy)).mono (by decide) (by decide)⟩⟩
theorem main_1_1 : Claimed_1_1 := comes_1 fun _ _ _ _ _ _ h hF => ⟨h.1, hF⟩
theorem main_1_2 : Claimed_1_2 := comes_1 fun _ _ _ _ _ _ h hF => ⟨h.2.1, hF⟩
end Jvm.Pilot.@@N@@
namespace Jvm.Pilot.@@N@@
open Jvm Jvm.ClassFile Sem Op Lib Jvm.Free Jvm.Stand Jvm.Pilot.@@N@@.Jvm.D
/-! MADE BY PROGRAM (witnessworld.py) out of the Statement's table words and the real class files: 10 classes; the members and pool entries that the words name. The judged class is class 1, her method 1. -/
namespace start1
open Jvm.ClassFile
def u (s : String) : CpInfo := .utf8 (stringToUtf16 s)
/-- a pool by its gaps: so many unusable entries, then the entry; so many at the end -/
def gap : Nat → List CpInfo → List CpInfo
  | 0, r => r
  | n + 1, r => .unusable :: gap n r
def poolList (es : List (Nat × CpInfo)) (last : Nat) : List CpInfo := es.foldr (fun e r => gap e.1 (e.2 :: r)) (gap last [])
def pool (es : List (Nat × CpInfo)) (last : Nat) : Array CpInfo := ⟨poolList es last⟩
def fileOf (pool : Array CpInfo) (this : Nat) (attrs : Array Attribute := #[]) (ms : Array MethodInfo := #[]) (fl : Nat := 33) (sup : Nat := 0) (ifs : Array Nat := #[]) (fds : Array FieldInfo := #[]) : ClassFile where
  minorVersion := 0
  majorVersion := 65
  constantPool := pool
  accessFlags := fl
  thisClass := this
  superClass := sup
  interfaces := ifs
  fields := fds
  methods := ms
  attributes := attrs
def plain (name : String) (sup : Option ClassId) : Class where
  name := name
  kind := .ordinary
  loader := none
  accessFlags := 33
  super := sup
  interfaces := #[]
  cf := none
  fields := #[]
  methods := #[]
  instanceTypes := #[]
  staticTypes := #[]
  resolved := #[]
  callSites := []
  init := .initialized
  statics := none
  mirror := none

def pool0 : Array CpInfo := pool [(5, u "<init>"), (0, u "()V"), (1, .class_ 10), (1, u "java/lang/Object")] 113

def k0m0 : Method := { name := "<init>", desc := "()V", sig := { parameters := [], returnType := none }, accessFlags := 1, code := none }
/-- java/lang/Object -/
def k0 : Class := { plain "java/lang/Object" none with
  accessFlags := 33
  interfaces := #[]
  cf := some (fileOf pool0 8 #[] #[{ accessFlags := 1, nameIndex := 5, descriptorIndex := 6, attributes := #[] }] 33 0 #[] #[])
  fields := #[]
  methods := #[k0m0]
  instanceTypes := #[]
  staticTypes := #[]
  resolved := Array.replicate 124 none
  statics := none }

def pool1 : Array CpInfo := pool [(2, .class_ 4), (1, u "java/lang/Object"), (0, u "<init>"), (0, u "()V"), (0, .integer 2147483647), (0, .methodref 9 10), (0, .class_ 11), (0, .nameAndType 12 13), (0, u "java/lang/Math"), (0, u "max"), (0, u "(II)I"), (0, .integer 65535), (0, .integer 125000), (0, .methodref 17 18), (0, .class_ 19), (0, .nameAndType 20 21), (0, u "com/example/kerbstone/kerbstone/model/CarryAndForward"), (0, u "hopTime"), (0, u "(ID)D"), (0, .double 4611686018427387904), (1, .class_ 25), (0, u "com/example/kerbstone/kerbstone/model/CarryAndForwardHopTimePinLaw"), (2, u "law"), (0, u "(IIII)Z")] 3

def k1m0 : Method := { name := "<init>", desc := "()V", sig := { parameters := [], returnType := none }, accessFlags := 1, code := none }
def k1c1 : Code := { maxStack := 6, maxLocals := 18, code := code, exceptionTable := #[], attributes := #[] }
def k1m1 : Method := { name := "law", desc := "(IIII)Z", sig := { parameters := [.int, .int, .int, .int], returnType := some .boolean }, accessFlags := 9, code := some k1c1 }
/-- com/example/kerbstone/kerbstone/model/CarryAndForwardHopTimePinLaw -/
def k1 : Class := { plain "com/example/kerbstone/kerbstone/model/CarryAndForwardHopTimePinLaw" (some 0) with
  accessFlags := 49
  interfaces := #[]
  cf := some (fileOf pool1 24 #[] #[{ accessFlags := 1, nameIndex := 5, descriptorIndex := 6, attributes := #[] }, { accessFlags := 9, nameIndex := 28, descriptorIndex := 29, attributes := #[] }] 49 2 #[] #[])
  fields := #[]
  methods := #[k1m0, k1m1]
  instanceTypes := #[]
  staticTypes := #[]
  resolved := Array.replicate 33 none
  statics := none }

def pool2 : Array CpInfo := pool [(1, .class_ 2), (0, u "java/lang/Math"), (1, .class_ 6), (1, u "java/lang/Object"), (0, u "<init>"), (0, u "()V"), (89, .class_ 100), (1, u "java/lang/Math$RandomNumberGeneratorHolder"), (71, u "negativeZeroFloatBits"), (0, u "J"), (2, u "negativeZeroDoubleBits"), (21, u "max"), (46, u "$assertionsDisabled"), (0, u "Z"), (88, u "(II)I"), (2, u "twoToTheDoubleScaleDown"), (0, u "D"), (4, u "twoToTheDoubleScaleUp"), (9, u "E"), (3, u "PI"), (2, u "TAU"), (2, u "DEGREES_TO_RADIANS"), (0, u "RADIANS_TO_DEGREES")] 94

def k2m0 : Method := { name := "<init>", desc := "()V", sig := { parameters := [], returnType := none }, accessFlags := 2, code := none }
def k2c1 : Code := { maxStack := 2, maxLocals := 2, code := jdk_29_method_65_code, exceptionTable := #[], attributes := #[] }
def k2m1 : Method := { name := "max", desc := "(II)I", sig := { parameters := [.int, .int], returnType := some .int }, accessFlags := 9, code := some k2c1 }
/-- java/lang/Math -/
def k2 : Class := { plain "java/lang/Math" (some 0) with
  accessFlags := 49
  interfaces := #[]
  cf := some (fileOf pool2 1 #[.nestMembers #[98]] #[{ accessFlags := 2, nameIndex := 7, descriptorIndex := 8, attributes := #[] }, { accessFlags := 9, nameIndex := 198, descriptorIndex := 335, attributes := #[] }] 49 4 #[] #[{ accessFlags := 25, nameIndex := 354, descriptorIndex := 339, attributes := #[] }, { accessFlags := 25, nameIndex := 358, descriptorIndex := 339, attributes := #[] }, { accessFlags := 25, nameIndex := 361, descriptorIndex := 339, attributes := #[] }, { accessFlags := 26, nameIndex := 364, descriptorIndex := 339, attributes := #[] }, { accessFlags := 26, nameIndex := 365, descriptorIndex := 339, attributes := #[] }, { accessFlags := 26, nameIndex := 172, descriptorIndex := 173, attributes := #[] }, { accessFlags := 26, nameIndex := 176, descriptorIndex := 173, attributes := #[] }, { accessFlags := 8, nameIndex := 344, descriptorIndex := 339, attributes := #[] }, { accessFlags := 8, nameIndex := 338, descriptorIndex := 339, attributes := #[] }, { accessFlags := 4120, nameIndex := 245, descriptorIndex := 246, attributes := #[] }])
  fields := #[{ name := "E", type := .double, accessFlags := 25, slot := 0, constantValue := 0 }, { name := "PI", type := .double, accessFlags := 25, slot := 1, constantValue := 0 }, { name := "TAU", type := .double, accessFlags := 25, slot := 2, constantValue := 0 }, { name := "DEGREES_TO_RADIANS", type := .double, accessFlags := 26, slot := 3, constantValue := 0 }, { name := "RADIANS_TO_DEGREES", type := .double, accessFlags := 26, slot := 4, constantValue := 0 }, { name := "negativeZeroFloatBits", type := .long, accessFlags := 26, slot := 5, constantValue := 0 }, { name := "negativeZeroDoubleBits", type := .long, accessFlags := 26, slot := 6, constantValue := 0 }, { name := "twoToTheDoubleScaleUp", type := .double, accessFlags := 8, slot := 7, constantValue := 0 }, { name := "twoToTheDoubleScaleDown", type := .double, accessFlags := 8, slot := 8, constantValue := 0 }, { name := "$assertionsDisabled", type := .boolean, accessFlags := 4120, slot := 9, constantValue := 0 }]
  methods := #[k2m0, k2m1]
  instanceTypes := #[]
  staticTypes := #[.double, .double, .double, .double, .double, .long, .long, .double, .double, .boolean]
  resolved := Array.replicate 460 none
  statics := none }

def pool3 : Array CpInfo := pool [(2, .class_ 4), (1, u "java/lang/Object"), (0, u "<init>"), (0, u "()V"), (0, .double 4620693217682128896), (1, .double 4696837146684686336), (14, .class_ 25), (0, u "com/example/kerbstone/kerbstone/model/CarryAndForward"), (2, u "hopTime"), (0, u "(ID)D")] 7

def k3m0 : Method := { name := "<init>", desc := "()V", sig := { parameters := [], returnType := none }, accessFlags := 2, code := none }
def k3c1 : Code := { maxStack := 6, maxLocals := 3, code := prog_10_method_2_code, exceptionTable := #[], attributes := #[] }
def k3m1 : Method := { name := "hopTime", desc := "(ID)D", sig := { parameters := [.int, .double], returnType := some .double }, accessFlags := 9, code := some k3c1 }
/-- com/example/kerbstone/kerbstone/model/CarryAndForward -/
def k3 : Class := { plain "com/example/kerbstone/kerbstone/model/CarryAndForward" (some 0) with
  accessFlags := 49
  interfaces := #[]
  cf := some (fileOf pool3 24 #[] #[{ accessFlags := 2, nameIndex := 5, descriptorIndex := 6, attributes := #[] }, { accessFlags := 9, nameIndex := 28, descriptorIndex := 29, attributes := #[] }] 49 2 #[] #[])
  fields := #[]
  methods := #[k3m0, k3m1]
  instanceTypes := #[]
  staticTypes := #[]
  resolved := Array.replicate 37 none
  statics := none }

def pool4 : Array CpInfo := pool [(1, u "java/lang/Cloneable"), (0, .class_ 1), (0, u "java/lang/Object"), (0, .class_ 3)] 3

/-- java/lang/Cloneable -/
def k4 : Class := { plain "java/lang/Cloneable" (some 0) with
  accessFlags := 1537
  interfaces := #[]
  cf := some (fileOf pool4 2 #[] #[] 1537 4 #[] #[])
  fields := #[]
  methods := #[]
  instanceTypes := #[]
  staticTypes := #[]
  resolved := Array.replicate 8 none
  statics := none }

def pool5 : Array CpInfo := pool [(1, u "java/io/Serializable"), (0, .class_ 1), (0, u "java/lang/Object"), (0, .class_ 3)] 3

/-- java/io/Serializable -/
def k5 : Class := { plain "java/io/Serializable" (some 0) with
  accessFlags := 1537
  interfaces := #[]
  cf := some (fileOf pool5 2 #[] #[] 1537 4 #[] #[])
  fields := #[]
  methods := #[]
  instanceTypes := #[]
  staticTypes := #[]
  resolved := Array.replicate 8 none
  statics := none }

/-- the primitive byte -/
def k6 : Class := { plain "byte" none with kind := .primitive 'B', accessFlags := 0x411 }
/-- [B -/
def k7 : Class := { plain "[B" (some 0) with kind := .array 6 .byte, interfaces := #[4, 5], accessFlags := 1041 }

/-- the primitive int -/
def k8 : Class := { plain "int" none with kind := .primitive 'I', accessFlags := 0x411 }
/-- [I -/
def k9 : Class := { plain "[I" (some 0) with kind := .array 8 .int, interfaces := #[4, 5], accessFlags := 1041 }

def heap : Heap := #[]
def classes : Array Class := #[k0, k1, k2, k3, k4, k5, k6, k7, k8, k9]
def interned : List (Array UInt16 × Addr) := []
def slotsUsed : Nat := 0
def theMethod : MethodId := ⟨1, 1⟩
def args0 : Array Value := #[.int 5, .int 9, .int 3, .int 2]
def aboutOver (below : List Frame) : State where
  vm := { classes := classes, interned := interned.toArray }
  heap := heap
  slotsUsed := slotsUsed
  threads := #[{ frames := .invoking theMethod args0 :: below }]
def below0 : List Frame := [.native { method := ⟨0, 0⟩, args := #[] }]
def about1 : State := aboutOver below0
def p0 : Program := .bare "" "" ""
def e0 : Env := launch0.env 0 0 0
theorem w_frames : about1.frames = Frame.invoking theMethod args0 :: below0 := rfl
set_option maxRecDepth 65536 in
theorem w_args : argsFit about1.vm theMethod args0 = true := by decide +kernel
set_option maxRecDepth 65536 in
theorem w_heap : heapFits about1 = true := by decide +kernel
set_option maxRecDepth 65536 in
theorem w_runnable : about1.curStatus? = some .runnable := by decide +kernel
set_option maxRecDepth 65536 in
theorem w_alone : about1.alone = true := by decide +kernel
set_option maxRecDepth 65536 in
theorem w_named : about1.methodNamed? x = some theMethod := by decide +kernel
set_option maxRecDepth 65536 in
theorem w_hears : about1.hears theMethod below0 = true := by decide +kernel
set_option maxRecDepth 65536 in
theorem w_ripe : about1.ripe theMethod args0 below0 = true := by decide +kernel
theorem w_running : about1.status = .running := rfl
set_option maxRecDepth 65536 in
theorem w_room : about1.hasRoom e0.platform room_1 = true :=
  launch0.hasRoom_least _ room_1 (by decide +kernel) (by decide +kernel) (by decide +kernel) (by decide +kernel) (by decide +kernel) (by decide +kernel)
theorem allAtoms_all (ts : List Jvm.Cond) (a : Array Jvm.Value) (st : Jvm.State) : (allAtoms ts).before a st = ts.all (fun c => c.before a st) := by
  induction ts with
  | nil => rfl
  | cons c t ih =>
    show (Jvm.Cond.and c (allAtoms t)).before a st = _
    rw [Jvm.Cond.before_and, ih, List.all_cons]
def words1 : List Jvm.Cond := Jvm.Cond.code x code maxLocals ret :: tables_1
/-- a 'code' word, met by the world's own term for the bytes: nothing is compared byte by byte -/
theorem code_word {y : MethodName} {bytes : ByteArray} {mx : Nat} {rt : Option FieldType} {a : Array Value} {s : State} {m : MethodId} {meth : Method} {c : Code} (h1 : s.methodNamed? y = some m) (h2 : s.vm.method? m = some meth) (h3 : meth.code = some c) (h4 : c.code = bytes)
    (h5 : (c.maxLocals == mx && c.exceptionTable.isEmpty && decide (c.maxStack ≤ mostOperands) && decide (meth.sig.returnType = rt) && !meth.locks && decide (parseMethodDescriptor y.desc = some meth.sig)) = true) : (Jvm.Cond.code y bytes mx rt).before a s = true := by
  simp only [Bool.and_eq_true, beq_iff_eq, Bool.not_eq_true', decide_eq_true_eq] at h5
  obtain ⟨⟨⟨⟨⟨g1, g2⟩, g3⟩, g4⟩, g5⟩, g6⟩ := h5
  simp [Cond.before, Cond.holds, Cond.value, h1, h2, h3, h4, g1, g2, g3, g4, g5, g6]
def isCode : Jvm.Cond → Bool
  | .code _ _ _ _ => true
  | _ => false
theorem all_split {L : List Jvm.Cond} {P : Jvm.Cond → Bool} (h1 : L.all (fun c => isCode c || P c) = true) (h2 : ∀ c ∈ L.filter isCode, P c = true) : L.all P = true := by
  refine List.all_eq_true.mpr fun c hc => ?_
  have h := List.all_eq_true.mp h1 c hc
  rcases Bool.eq_false_or_eq_true (isCode c) with hi | hi
  · exact h2 c (List.mem_filter.mpr ⟨hc, hi⟩)
  · simpa [hi] using h
set_option maxRecDepth 65536 in
theorem w_c0 : (Jvm.Cond.code x code maxLocals ret).before args0 about1 = true := code_word (m := ⟨1, 1⟩) (meth := k1m1) (c := k1c1) (by decide +kernel) rfl rfl rfl (by decide +kernel)
set_option maxRecDepth 65536 in
theorem w_c1 : (Jvm.Cond.code ({ cls := "java/lang/Math", name := "max", desc := "(II)I" } : Jvm.MethodName) jdk_29_method_65_code (2 : Nat) (Option.some Jvm.ClassFile.FieldType.int)).before args0 about1 = true := code_word (m := ⟨2, 1⟩) (meth := k2m1) (c := k2c1) (by decide +kernel) rfl rfl rfl (by decide +kernel)
set_option maxRecDepth 65536 in
theorem w_c2 : (Jvm.Cond.code ({ cls := "com/example/kerbstone/kerbstone/model/CarryAndForward", name := "hopTime", desc := "(ID)D" } : Jvm.MethodName) prog_10_method_2_code (3 : Nat) (Option.some Jvm.ClassFile.FieldType.double)).before args0 about1 = true := code_word (m := ⟨3, 1⟩) (meth := k3m1) (c := k3c1) (by decide +kernel) rfl rfl rfl (by decide +kernel)
def codes1 : List Jvm.Cond := [Jvm.Cond.code x code maxLocals ret, Jvm.Cond.code ({ cls := "java/lang/Math", name := "max", desc := "(II)I" } : Jvm.MethodName) jdk_29_method_65_code (2 : Nat) (Option.some Jvm.ClassFile.FieldType.int), Jvm.Cond.code ({ cls := "com/example/kerbstone/kerbstone/model/CarryAndForward", name := "hopTime", desc := "(ID)D" } : Jvm.MethodName) prog_10_method_2_code (3 : Nat) (Option.some Jvm.ClassFile.FieldType.double)]
set_option maxRecDepth 65536 in
theorem codes_eq : words1.filter isCode = codes1 := rfl
theorem w_codes : ∀ c ∈ words1.filter isCode, c.before args0 about1 = true := by
  rw [codes_eq]
  intro c hc
  simp only [codes1, List.mem_cons, List.not_mem_nil, or_false] at hc
  rcases hc with rfl | rfl | rfl
  · exact w_c0
  · exact w_c1
  · exact w_c2
set_option maxRecDepth 65536 in
theorem w_t1 : words1.all (fun c => isCode c || c.before args0 about1) = true := by decide +kernel
theorem w_tables : (allAtoms (Jvm.Cond.code x code maxLocals ret :: tables_1)).before args0 about1 = true := by
  rw [allAtoms_all]
  show words1.all (fun c => c.before args0 about1) = true
  refine all_split ?_ w_codes
  rw [w_t1]
set_option maxRecDepth 65536 in
theorem w_case : (Jvm.Cond.and given_1 narrow_1).before args0 about1 = true := by decide +kernel
theorem w_applies : (headSpec (Jvm.Cond.code x code maxLocals ret :: tables_1) room_1).applies x e0.platform about1 = true :=
  (Spec.applies_iff w_frames).mpr ⟨w_running, w_runnable, w_alone, w_named, w_hears, w_ripe, w_room, w_tables⟩
theorem atStart : AtStart classFile x code maxLocals ret World_1 tables_1 room_1 Calls_1 rest_1 Pre_1 launch0 p0 e0 about1 theMethod args0 below0 :=
  ⟨lists_1, trivial, launch0.admits_env _ _ _, launch0.least_env, fairChoices_fair.cas, fairChoices_fair.clock, w_frames, w_args, w_heap, w_applies, trivial, trivial, w_case⟩
end start1
theorem witness_1 : WitnessClaimed_1 := ⟨start1.p0, start1.e0, start1.about1, start1.theMethod, start1.args0, start1.below0, start1.atStart⟩
end Jvm.Pilot.@@N@@
