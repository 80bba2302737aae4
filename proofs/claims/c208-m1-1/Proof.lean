import JvmDerived
import JvmDerived.Pilot.@@N@@Statement
import JvmDerived.Pilot.@@N@@Code
set_option linter.unusedVariables false
set_option linter.unusedSimpArgs false
namespace Jvm.EKit
open Sem ClassFile Op Lib Jvm.Stand Jvm.Free Jvm.LawKit Jvm.RoadKit
/-- from the frame F at T the body comes to a return at which Φ holds -/
def EndsP (p : Program) (e : Env) (below : List Frame) (m : MethodId) (Φ : State → Option Value → Prop) (T : State) (F : JFrame) : Prop :=
  ∃ (T' : State) (v : Option Value), Φ T' v ∧
    ∀ fs, (∀ (f : JFrame) (acts : List Action), f.method = m → f.locked = none → f.entered = [] → (doReturn e (T'.setTop f) acts v).1 = T'.setFrames fs) → Steps p.tables e below (T.setTop F) (T'.setFrames fs)
def Std (p : Program) (l : Launch) (e : Env) (R : Room) (s : State) (m : MethodId) (args : Array Value) (below : List Frame) (meth : Method) (c : Code) (C S : Nat) (Q : Option Value → Heap → List Loc → Prop) (T' : State) (v : Option Value) : Prop :=
  ∃ (locs : List Loc) (cells slots : Nat), Stand p l e R s m args below meth c T' locs cells slots ∧ Q v T'.heap locs ∧ cells ≤ C ∧ slots ≤ S ∧ (meth.sig.returnType = none → v = none)
abbrev Ends (p : Program) (l : Launch) (e : Env) (R : Room) (s : State) (m : MethodId) (args : Array Value) (below : List Frame) (meth : Method) (c : Code) (C S : Nat) (Q : Option Value → Heap → List Loc → Prop) (T : State) (F : JFrame) : Prop := EndsP p e below m (Std p l e R s m args below meth c C S Q) T F
/-- .. over a start whose tables a String constant may have moved -/
def Wid (p : Program) (l : Launch) (e : Env) (R : Room) (s : State) (m : MethodId) (args : Array Value) (below : List Frame) (meth : Method) (c : Code) (C S : Nat) (Q : Option Value → Heap → List Loc → Prop) (T' : State) (v : Option Value) : Prop :=
  ∃ (vm₁ : Vm) (n : Nat) (locs : List Loc) (cells slots : Nat), s.Since vm₁ n ∧ n ≤ T'.heap.size ∧ Stand p l e R (s.setVm vm₁) m args below meth c T' locs cells slots ∧ Q v T'.heap locs ∧ cells ≤ C ∧ slots ≤ S ∧ (meth.sig.returnType = none → v = none)
abbrev EndsW (p : Program) (l : Launch) (e : Env) (R : Room) (s : State) (m : MethodId) (args : Array Value) (below : List Frame) (meth : Method) (c : Code) (C S : Nat) (Q : Option Value → Heap → List Loc → Prop) (T : State) (F : JFrame) : Prop := EndsP p e below m (Wid p l e R s m args below meth c C S Q) T F

/-- the contract of a body -/
def Pays (l : Launch) (Z : State) (y : MethodName) (bytes : ByteArray) (maxL : Nat) (ret : Option FieldType) (ws : List Jvm.Cond) (rm : Room) (as' : Array Value) (h : Heap) (Q : Option Value → Heap → List Loc → Prop) : Prop :=
  MetFree l y (head1 (Jvm.Cond.code y bytes maxL ret :: ws) rm) (fun a U => a = as' ∧ Z.Warmed39 U.vm ∧ U.heap = h) (fun _ _ _ _ _ => True) (fun _ U o U' => ∃ v L, o = .returned v ∧ Q v U'.heap L ∧ FrameEnd U o U' L rm.cells rm.slots)
/-- it returns V and writes nothing -/
def RetQ (V : Option Value) (h : Heap) : Option Value → Heap → List Loc → Prop := fun v h' L => v = V ∧ h' = h ∧ L = []
section
variable {p : Program} {l : Launch} {e : Env} {R : Room} {s : State} {m : MethodId} {args : Array Value} {below : List Frame} {meth : Method} {c : Code} {T : State} {locs : List Loc} {cells slots : Nat} {C S : Nat} {Q : Option Value → Heap → List Loc → Prop} {Φ : State → Option Value → Prop} {pc q : Nat} {Ls : Array Slot} {st rest : List Value}
theorem step {T1 : State} {F F1 : JFrame} (h : ∀ t, Steps p.tables e below (T1.setTop F1) t → Steps p.tables e below (T.setTop F) t) (k : EndsP p e below m Φ T1 F1) : EndsP p e below m Φ T F := by
  obtain ⟨T', v, h1, h6⟩ := k
  exact ⟨T', v, h1, fun fs hl => h _ (h6 fs hl)⟩

theorem pays {Z : State} {y : MethodName} {bytes : ByteArray} {maxL : Nat} {ret : Option FieldType} {ws : List Jvm.Cond} {rm : Room} {as' : Array Value} {h : Heap} (hpl : plainFor y = true) {F0 : MethodId → JFrame} (hF : ∀ m, entryFrame m as' maxL = F0 m)
    (k : ∀ (p : Program) (e : Env) (s : State) (m : MethodId) (below : List Frame) (meth : Method) (c : Code) (s₁ : State), p.tables.exec = Jvm.exec → c.code = bytes → c.maxLocals = maxL → Z.Warmed39 s.vm → s.vm.findClass y.cls = some m.cls → meth.name = y.name → meth.sig.returnType = ret → Stand p l e rm s m as' below meth c s₁ [] 0 0 → s₁.heap = h → s.heap = h →
      Ends p l e rm s m as' below meth c rm.cells rm.slots Q s₁ (F0 m)) : Pays l Z y bytes maxL ret ws rm as' h Q := by
  refine MetFree.of_bodySF hpl hisR ?_
  intro p e s m args below meth c s₁ Bd hml0 hP hK
  obtain ⟨rfl, hZ, hh⟩ := hP
  obtain ⟨T', v, ⟨locs, cells, slots, X, hQ, h3, h4, h5⟩, h6⟩ := k p e s m below meth c s₁ Bd.exec Bd.bytes hml0 hZ (findClass_of_methodNamed Bd.named) (name_of_methodNamed Bd.named Bd.method).1 Bd.returns (Stand.of_body Bd) (by rw [← hh, Bd.state]; rfl) hh
  obtain ⟨fs, hr, hrun, hended, hW, hsame⟩ := X.leave (v := v) h5
  exact ⟨_, _, castTop (hF m) (h6 fs hr), hrun, hended, v, locs, rfl, hQ, ⟨_, rfl⟩, hW, hsame.mono h3 h4⟩
theorem iloadN (X : Stand p l e R s m args below meth c T locs cells slots) (hx : p.tables.exec = Jvm.exec) {k0 : Fin 4} {v : Int32} (hl : Ls[k0.val]? = some (.val (.int v))) (hd : decode c.code pc = .ok (.iload_n k0, 1)) (hq : pc + 1 = q) (k : EndsP p e below m Φ T (mkF m q Ls (.int v :: st))) : EndsP p e below m Φ T (mkF m pc Ls (st)) := step (fun _ h => by subst hq; exact XS.iloadN X.here hx rfl hd hl h) k
theorem iload (X : Stand p l e R s m args below meth c T locs cells slots) (hx : p.tables.exec = Jvm.exec) {k0 : Nat} {v : Int32} (hl : Ls[k0]? = some (.val (.int v))) (hd : decode c.code pc = .ok (.iload k0, 2)) (hq : pc + 2 = q) (k : EndsP p e below m Φ T (mkF m q Ls (.int v :: st))) : EndsP p e below m Φ T (mkF m pc Ls (st)) := step (fun _ h => by subst hq; exact XS.iload X.here hx rfl hd hl h) k
theorem istoreN (X : Stand p l e R s m args below meth c T locs cells slots) (hx : p.tables.exec = Jvm.exec) {k0 : Fin 4} {v : Int32} {l' : Array Slot} (hl : storeLocals Ls k0.val (.int v) = some l') (hd : decode c.code pc = .ok (.istore_n k0, 1)) (hq : pc + 1 = q) (k : EndsP p e below m Φ T (mkF m q l' (st))) : EndsP p e below m Φ T (mkF m pc Ls (.int v :: st)) := step (fun _ h => by subst hq; exact XS.istoreN X.here hx rfl hd rfl hl h) k
theorem istore (X : Stand p l e R s m args below meth c T locs cells slots) (hx : p.tables.exec = Jvm.exec) {k0 : Nat} {v : Int32} {l' : Array Slot} (hl : storeLocals Ls k0 (.int v) = some l') (hd : decode c.code pc = .ok (.istore k0, 2)) (hq : pc + 2 = q) (k : EndsP p e below m Φ T (mkF m q l' (st))) : EndsP p e below m Φ T (mkF m pc Ls (.int v :: st)) := step (fun _ h => by subst hq; exact XS.istore X.here hx rfl hd rfl hl h) k
theorem lloadN (X : Stand p l e R s m args below meth c T locs cells slots) (hx : p.tables.exec = Jvm.exec) {k0 : Fin 4} {v : Int64} (hl : Ls[k0.val]? = some (.val (.long v))) (hd : decode c.code pc = .ok (.lload_n k0, 1)) (hq : pc + 1 = q) (k : EndsP p e below m Φ T (mkF m q Ls (.long v :: st))) : EndsP p e below m Φ T (mkF m pc Ls (st)) := step (fun _ h => by subst hq; exact XS.lloadN X.here hx rfl hd hl h) k
theorem lload (X : Stand p l e R s m args below meth c T locs cells slots) (hx : p.tables.exec = Jvm.exec) {k0 : Nat} {v : Int64} (hl : Ls[k0]? = some (.val (.long v))) (hd : decode c.code pc = .ok (.lload k0, 2)) (hq : pc + 2 = q) (k : EndsP p e below m Φ T (mkF m q Ls (.long v :: st))) : EndsP p e below m Φ T (mkF m pc Ls (st)) := step (fun _ h => by subst hq; exact XS.lload X.here hx rfl hd hl h) k
theorem lstoreN (X : Stand p l e R s m args below meth c T locs cells slots) (hx : p.tables.exec = Jvm.exec) {k0 : Fin 4} {v : Int64} {l' : Array Slot} (hl : storeLocals Ls k0.val (.long v) = some l') (hd : decode c.code pc = .ok (.lstore_n k0, 1)) (hq : pc + 1 = q) (k : EndsP p e below m Φ T (mkF m q l' (st))) : EndsP p e below m Φ T (mkF m pc Ls (.long v :: st)) := step (fun _ h => by subst hq; exact XS.lstoreN X.here hx rfl hd rfl hl h) k
theorem lstore (X : Stand p l e R s m args below meth c T locs cells slots) (hx : p.tables.exec = Jvm.exec) {k0 : Nat} {v : Int64} {l' : Array Slot} (hl : storeLocals Ls k0 (.long v) = some l') (hd : decode c.code pc = .ok (.lstore k0, 2)) (hq : pc + 2 = q) (k : EndsP p e below m Φ T (mkF m q l' (st))) : EndsP p e below m Φ T (mkF m pc Ls (.long v :: st)) := step (fun _ h => by subst hq; exact XS.lstore X.here hx rfl hd rfl hl h) k
theorem aloadN (X : Stand p l e R s m args below meth c T locs cells slots) (hx : p.tables.exec = Jvm.exec) {k0 : Fin 4} {v : Value} (hl : Ls[k0.val]? = some (.val v)) (hv : v.isRef = true) (hd : decode c.code pc = .ok (.aload_n k0, 1)) (hq : pc + 1 = q) (k : EndsP p e below m Φ T (mkF m q Ls (v :: st))) : EndsP p e below m Φ T (mkF m pc Ls (st)) := step (fun _ h => by subst hq; exact XS.aloadN X.here hx rfl hd hl hv h) k
theorem aload (X : Stand p l e R s m args below meth c T locs cells slots) (hx : p.tables.exec = Jvm.exec) {k0 : Nat} {v : Value} (hl : Ls[k0]? = some (.val v)) (hv : v.isRef = true) (hd : decode c.code pc = .ok (.aload k0, 2)) (hq : pc + 2 = q) (k : EndsP p e below m Φ T (mkF m q Ls (v :: st))) : EndsP p e below m Φ T (mkF m pc Ls (st)) := step (fun _ h => by subst hq; exact XS.aload X.here hx rfl hd hl hv h) k
theorem astoreN (X : Stand p l e R s m args below meth c T locs cells slots) (hx : p.tables.exec = Jvm.exec) {k0 : Fin 4} {v : Value} {l' : Array Slot} (hv : v.isRef = true) (hl : storeLocals Ls k0.val v = some l') (hd : decode c.code pc = .ok (.astore_n k0, 1)) (hq : pc + 1 = q) (k : EndsP p e below m Φ T (mkF m q l' (st))) : EndsP p e below m Φ T (mkF m pc Ls (v :: st)) := step (fun _ h => by subst hq; exact XS.astoreN X.here hx rfl hd rfl hv hl h) k
theorem astore (X : Stand p l e R s m args below meth c T locs cells slots) (hx : p.tables.exec = Jvm.exec) {k0 : Nat} {v : Value} {l' : Array Slot} (hv : v.isRef = true) (hl : storeLocals Ls k0 v = some l') (hd : decode c.code pc = .ok (.astore k0, 2)) (hq : pc + 2 = q) (k : EndsP p e below m Φ T (mkF m q l' (st))) : EndsP p e below m Φ T (mkF m pc Ls (v :: st)) := step (fun _ h => by subst hq; exact XS.astore X.here hx rfl hd rfl hv hl h) k
theorem iconst (X : Stand p l e R s m args below meth c T locs cells slots) (hx : p.tables.exec = Jvm.exec) {i : Int} {v : Int32} (hv : Int32.ofInt i = v) (hd : decode c.code pc = .ok (.iconst i, 1)) (hq : pc + 1 = q) (k : EndsP p e below m Φ T (mkF m q Ls (.int v :: st))) : EndsP p e below m Φ T (mkF m pc Ls (st)) := step (fun _ h => by subst hq; exact XS.iconst X.here hx rfl hd (by rw [hv]; exact h)) k
theorem bipush (X : Stand p l e R s m args below meth c T locs cells slots) (hx : p.tables.exec = Jvm.exec) {i : Int} {v : Int32} (hv : (Int8.ofInt i).toInt32 = v) (hd : decode c.code pc = .ok (.bipush i, 2)) (hq : pc + 2 = q) (k : EndsP p e below m Φ T (mkF m q Ls (.int v :: st))) : EndsP p e below m Φ T (mkF m pc Ls (st)) := step (fun _ h => by subst hq; exact XS.bipush X.here hx rfl hd (by rw [hv]; exact h)) k
theorem sipush (X : Stand p l e R s m args below meth c T locs cells slots) (hx : p.tables.exec = Jvm.exec) {i : Int} {v : Int32} (hv : (Int16.ofInt i).toInt32 = v) (hd : decode c.code pc = .ok (.sipush i, 3)) (hq : pc + 3 = q) (k : EndsP p e below m Φ T (mkF m q Ls (.int v :: st))) : EndsP p e below m Φ T (mkF m pc Ls (st)) := step (fun _ h => by subst hq; exact XS.sipush X.here hx rfl hd (by rw [hv]; exact h)) k
theorem lconst (X : Stand p l e R s m args below meth c T locs cells slots) (hx : p.tables.exec = Jvm.exec) {i : Fin 2} {v : Int64} (hv : Int64.ofNat i = v) (hd : decode c.code pc = .ok (.lconst i, 1)) (hq : pc + 1 = q) (k : EndsP p e below m Φ T (mkF m q Ls (.long v :: st))) : EndsP p e below m Φ T (mkF m pc Ls (st)) := step (fun _ h => by subst hq; exact XS.lconst X.here hx rfl hd (by rw [hv]; exact h)) k
theorem aconstNull (X : Stand p l e R s m args below meth c T locs cells slots) (hx : p.tables.exec = Jvm.exec)  (hd : decode c.code pc = .ok (.aconst_null, 1)) (hq : pc + 1 = q) (k : EndsP p e below m Φ T (mkF m q Ls (.null :: st))) : EndsP p e below m Φ T (mkF m pc Ls (st)) := step (fun _ h => by subst hq; exact XS.aconstNull X.here hx rfl hd h) k
theorem iadd (X : Stand p l e R s m args below meth c T locs cells slots) (hx : p.tables.exec = Jvm.exec) {x y : Int32} (hd : decode c.code pc = .ok (.iadd, 1)) (hq : pc + 1 = q) (k : EndsP p e below m Φ T (mkF m q Ls (.int (x + y) :: st))) : EndsP p e below m Φ T (mkF m pc Ls (.int y :: .int x :: st)) := step (fun _ h => by subst hq; exact XS.iadd X.here hx rfl hd rfl h) k
theorem isub (X : Stand p l e R s m args below meth c T locs cells slots) (hx : p.tables.exec = Jvm.exec) {x y : Int32} (hd : decode c.code pc = .ok (.isub, 1)) (hq : pc + 1 = q) (k : EndsP p e below m Φ T (mkF m q Ls (.int (x - y) :: st))) : EndsP p e below m Φ T (mkF m pc Ls (.int y :: .int x :: st)) := step (fun _ h => by subst hq; exact XS.isub X.here hx rfl hd rfl h) k
theorem imul (X : Stand p l e R s m args below meth c T locs cells slots) (hx : p.tables.exec = Jvm.exec) {x y : Int32} (hd : decode c.code pc = .ok (.imul, 1)) (hq : pc + 1 = q) (k : EndsP p e below m Φ T (mkF m q Ls (.int (x * y) :: st))) : EndsP p e below m Φ T (mkF m pc Ls (.int y :: .int x :: st)) := step (fun _ h => by subst hq; exact XS.imul X.here hx rfl hd rfl h) k
theorem iand (X : Stand p l e R s m args below meth c T locs cells slots) (hx : p.tables.exec = Jvm.exec) {x y : Int32} (hd : decode c.code pc = .ok (.iand, 1)) (hq : pc + 1 = q) (k : EndsP p e below m Φ T (mkF m q Ls (.int (x &&& y) :: st))) : EndsP p e below m Φ T (mkF m pc Ls (.int y :: .int x :: st)) := step (fun _ h => by subst hq; exact XS.iand X.here hx rfl hd rfl h) k
theorem ior (X : Stand p l e R s m args below meth c T locs cells slots) (hx : p.tables.exec = Jvm.exec) {x y : Int32} (hd : decode c.code pc = .ok (.ior, 1)) (hq : pc + 1 = q) (k : EndsP p e below m Φ T (mkF m q Ls (.int (x ||| y) :: st))) : EndsP p e below m Φ T (mkF m pc Ls (.int y :: .int x :: st)) := step (fun _ h => by subst hq; exact XS.ior X.here hx rfl hd rfl h) k
theorem ixor (X : Stand p l e R s m args below meth c T locs cells slots) (hx : p.tables.exec = Jvm.exec) {x y : Int32} (hd : decode c.code pc = .ok (.ixor, 1)) (hq : pc + 1 = q) (k : EndsP p e below m Φ T (mkF m q Ls (.int (x ^^^ y) :: st))) : EndsP p e below m Φ T (mkF m pc Ls (.int y :: .int x :: st)) := step (fun _ h => by subst hq; exact XS.ixor X.here hx rfl hd rfl h) k
theorem ineg (X : Stand p l e R s m args below meth c T locs cells slots) (hx : p.tables.exec = Jvm.exec) {x : Int32} (hd : decode c.code pc = .ok (.ineg, 1)) (hq : pc + 1 = q) (k : EndsP p e below m Φ T (mkF m q Ls (.int (-x) :: st))) : EndsP p e below m Φ T (mkF m pc Ls (.int x :: st)) := step (fun _ h => by subst hq; exact XS.ineg X.here hx rfl hd rfl h) k
theorem idiv (X : Stand p l e R s m args below meth c T locs cells slots) (hx : p.tables.exec = Jvm.exec) {x y : Int32} (hy : y ≠ 0) (hd : decode c.code pc = .ok (.idiv, 1)) (hq : pc + 1 = q) (k : EndsP p e below m Φ T (mkF m q Ls (.int (x / y) :: st))) : EndsP p e below m Φ T (mkF m pc Ls (.int y :: .int x :: st)) := step (fun _ h => by subst hq; exact XS.idiv X.here hx rfl hd rfl hy h) k
theorem ladd (X : Stand p l e R s m args below meth c T locs cells slots) (hx : p.tables.exec = Jvm.exec) {x y : Int64} (hd : decode c.code pc = .ok (.ladd, 1)) (hq : pc + 1 = q) (k : EndsP p e below m Φ T (mkF m q Ls (.long (x + y) :: st))) : EndsP p e below m Φ T (mkF m pc Ls (.long y :: .long x :: st)) := step (fun _ h => by subst hq; exact XS.ladd X.here hx rfl hd rfl h) k
theorem lsub (X : Stand p l e R s m args below meth c T locs cells slots) (hx : p.tables.exec = Jvm.exec) {x y : Int64} (hd : decode c.code pc = .ok (.lsub, 1)) (hq : pc + 1 = q) (k : EndsP p e below m Φ T (mkF m q Ls (.long (x - y) :: st))) : EndsP p e below m Φ T (mkF m pc Ls (.long y :: .long x :: st)) := step (fun _ h => by subst hq; exact XS.lsub X.here hx rfl hd rfl h) k
theorem lmul (X : Stand p l e R s m args below meth c T locs cells slots) (hx : p.tables.exec = Jvm.exec) {x y : Int64} (hd : decode c.code pc = .ok (.lmul, 1)) (hq : pc + 1 = q) (k : EndsP p e below m Φ T (mkF m q Ls (.long (x * y) :: st))) : EndsP p e below m Φ T (mkF m pc Ls (.long y :: .long x :: st)) := step (fun _ h => by subst hq; exact XS.lmul X.here hx rfl hd rfl h) k
theorem land (X : Stand p l e R s m args below meth c T locs cells slots) (hx : p.tables.exec = Jvm.exec) {x y : Int64} (hd : decode c.code pc = .ok (.land, 1)) (hq : pc + 1 = q) (k : EndsP p e below m Φ T (mkF m q Ls (.long (x &&& y) :: st))) : EndsP p e below m Φ T (mkF m pc Ls (.long y :: .long x :: st)) := step (fun _ h => by subst hq; exact XS.land X.here hx rfl hd rfl h) k
theorem lor (X : Stand p l e R s m args below meth c T locs cells slots) (hx : p.tables.exec = Jvm.exec) {x y : Int64} (hd : decode c.code pc = .ok (.lor, 1)) (hq : pc + 1 = q) (k : EndsP p e below m Φ T (mkF m q Ls (.long (x ||| y) :: st))) : EndsP p e below m Φ T (mkF m pc Ls (.long y :: .long x :: st)) := step (fun _ h => by subst hq; exact XS.lor X.here hx rfl hd rfl h) k
theorem lxor (X : Stand p l e R s m args below meth c T locs cells slots) (hx : p.tables.exec = Jvm.exec) {x y : Int64} (hd : decode c.code pc = .ok (.lxor, 1)) (hq : pc + 1 = q) (k : EndsP p e below m Φ T (mkF m q Ls (.long (x ^^^ y) :: st))) : EndsP p e below m Φ T (mkF m pc Ls (.long y :: .long x :: st)) := step (fun _ h => by subst hq; exact XS.lxor X.here hx rfl hd rfl h) k
theorem lneg (X : Stand p l e R s m args below meth c T locs cells slots) (hx : p.tables.exec = Jvm.exec) {x : Int64} (hd : decode c.code pc = .ok (.lneg, 1)) (hq : pc + 1 = q) (k : EndsP p e below m Φ T (mkF m q Ls (.long (-x) :: st))) : EndsP p e below m Φ T (mkF m pc Ls (.long x :: st)) := step (fun _ h => by subst hq; exact XS.lneg X.here hx rfl hd rfl h) k
theorem ldiv (X : Stand p l e R s m args below meth c T locs cells slots) (hx : p.tables.exec = Jvm.exec) {x y : Int64} (hy : y ≠ 0) (hd : decode c.code pc = .ok (.ldiv, 1)) (hq : pc + 1 = q) (k : EndsP p e below m Φ T (mkF m q Ls (.long (x / y) :: st))) : EndsP p e below m Φ T (mkF m pc Ls (.long y :: .long x :: st)) := step (fun _ h => by subst hq; exact XS.ldiv X.here hx rfl hd rfl hy h) k
theorem irem (X : Stand p l e R s m args below meth c T locs cells slots) (hx : p.tables.exec = Jvm.exec) {x y : Int32} (hy : y ≠ 0) (hd : decode c.code pc = .ok (.irem, 1)) (hq : pc + 1 = q) (k : EndsP p e below m Φ T (mkF m q Ls (.int (x % y) :: st))) : EndsP p e below m Φ T (mkF m pc Ls (.int y :: .int x :: st)) := step (fun _ h => by subst hq; exact iremM X hx rfl hd rfl hy h) k
theorem lrem (X : Stand p l e R s m args below meth c T locs cells slots) (hx : p.tables.exec = Jvm.exec) {x y : Int64} (hy : y ≠ 0) (hd : decode c.code pc = .ok (.lrem, 1)) (hq : pc + 1 = q) (k : EndsP p e below m Φ T (mkF m q Ls (.long (x % y) :: st))) : EndsP p e below m Φ T (mkF m pc Ls (.long y :: .long x :: st)) := step (fun _ h => by subst hq; exact XS.lrem X.here hx rfl hd rfl hy (by rw [lrem_mod]; exact h)) k
theorem ishl (X : Stand p l e R s m args below meth c T locs cells slots) (hx : p.tables.exec = Jvm.exec) {x : Int32} {y : Int32} (hd : decode c.code pc = .ok (.ishl, 1)) (hq : pc + 1 = q) (k : EndsP p e below m Φ T (mkF m q Ls (.int (x <<< (y &&& 31)) :: st))) : EndsP p e below m Φ T (mkF m pc Ls (.int y :: .int x :: st)) := step (fun _ h => by subst hq; exact XS.ishl X.here hx rfl hd rfl h) k
theorem ishr (X : Stand p l e R s m args below meth c T locs cells slots) (hx : p.tables.exec = Jvm.exec) {x : Int32} {y : Int32} (hd : decode c.code pc = .ok (.ishr, 1)) (hq : pc + 1 = q) (k : EndsP p e below m Φ T (mkF m q Ls (.int (x >>> (y &&& 31)) :: st))) : EndsP p e below m Φ T (mkF m pc Ls (.int y :: .int x :: st)) := step (fun _ h => by subst hq; exact XS.ishr X.here hx rfl hd rfl h) k
theorem iushr (X : Stand p l e R s m args below meth c T locs cells slots) (hx : p.tables.exec = Jvm.exec) {x : Int32} {y : Int32} (hd : decode c.code pc = .ok (.iushr, 1)) (hq : pc + 1 = q) (k : EndsP p e below m Φ T (mkF m q Ls (.int ((x.toUInt32 >>> (y &&& 31).toUInt32).toInt32) :: st))) : EndsP p e below m Φ T (mkF m pc Ls (.int y :: .int x :: st)) := step (fun _ h => by subst hq; exact XS.iushr X.here hx rfl hd rfl h) k
theorem lshl (X : Stand p l e R s m args below meth c T locs cells slots) (hx : p.tables.exec = Jvm.exec) {x : Int64} {y : Int32} (hd : decode c.code pc = .ok (.lshl, 1)) (hq : pc + 1 = q) (k : EndsP p e below m Φ T (mkF m q Ls (.long (x <<< (y &&& 0x3f).toInt64) :: st))) : EndsP p e below m Φ T (mkF m pc Ls (.int y :: .long x :: st)) := step (fun _ h => by subst hq; exact XS.lshl X.here hx rfl hd rfl h) k
theorem lshr (X : Stand p l e R s m args below meth c T locs cells slots) (hx : p.tables.exec = Jvm.exec) {x : Int64} {y : Int32} (hd : decode c.code pc = .ok (.lshr, 1)) (hq : pc + 1 = q) (k : EndsP p e below m Φ T (mkF m q Ls (.long (x >>> (y &&& 0x3f).toInt64) :: st))) : EndsP p e below m Φ T (mkF m pc Ls (.int y :: .long x :: st)) := step (fun _ h => by subst hq; exact XS.lshr X.here hx rfl hd rfl h) k
theorem lushr (X : Stand p l e R s m args below meth c T locs cells slots) (hx : p.tables.exec = Jvm.exec) {x : Int64} {y : Int32} (hd : decode c.code pc = .ok (.lushr, 1)) (hq : pc + 1 = q) (k : EndsP p e below m Φ T (mkF m q Ls (.long ((x.toUInt64 >>> (y &&& 0x3f).toInt64.toUInt64).toInt64) :: st))) : EndsP p e below m Φ T (mkF m pc Ls (.int y :: .long x :: st)) := step (fun _ h => by subst hq; exact XS.lushr X.here hx rfl hd rfl h) k
theorem i2l (X : Stand p l e R s m args below meth c T locs cells slots) (hx : p.tables.exec = Jvm.exec) {x : Int32} (hd : decode c.code pc = .ok (.i2l, 1)) (hq : pc + 1 = q) (k : EndsP p e below m Φ T (mkF m q Ls (.long (x.toInt64) :: st))) : EndsP p e below m Φ T (mkF m pc Ls (.int x :: st)) := step (fun _ h => by subst hq; exact XS.i2l X.here hx rfl hd rfl h) k
theorem l2i (X : Stand p l e R s m args below meth c T locs cells slots) (hx : p.tables.exec = Jvm.exec) {x : Int64} (hd : decode c.code pc = .ok (.l2i, 1)) (hq : pc + 1 = q) (k : EndsP p e below m Φ T (mkF m q Ls (.int (x.toInt32) :: st))) : EndsP p e below m Φ T (mkF m pc Ls (.long x :: st)) := step (fun _ h => by subst hq; exact XS.l2i X.here hx rfl hd rfl h) k
theorem i2b (X : Stand p l e R s m args below meth c T locs cells slots) (hx : p.tables.exec = Jvm.exec) {x : Int32} (hd : decode c.code pc = .ok (.i2b, 1)) (hq : pc + 1 = q) (k : EndsP p e below m Φ T (mkF m q Ls (.int (x.toInt8.toInt32) :: st))) : EndsP p e below m Φ T (mkF m pc Ls (.int x :: st)) := step (fun _ h => by subst hq; exact XS.i2b X.here hx rfl hd rfl h) k
theorem i2s (X : Stand p l e R s m args below meth c T locs cells slots) (hx : p.tables.exec = Jvm.exec) {x : Int32} (hd : decode c.code pc = .ok (.i2s, 1)) (hq : pc + 1 = q) (k : EndsP p e below m Φ T (mkF m q Ls (.int (x.toInt16.toInt32) :: st))) : EndsP p e below m Φ T (mkF m pc Ls (.int x :: st)) := step (fun _ h => by subst hq; exact XS.i2s X.here hx rfl hd rfl h) k
theorem i2c (X : Stand p l e R s m args below meth c T locs cells slots) (hx : p.tables.exec = Jvm.exec) {x : Int32} (hd : decode c.code pc = .ok (.i2c, 1)) (hq : pc + 1 = q) (k : EndsP p e below m Φ T (mkF m q Ls (.int (x.toUInt32.toUInt16.toUInt32.toInt32) :: st))) : EndsP p e below m Φ T (mkF m pc Ls (.int x :: st)) := step (fun _ h => by subst hq; exact XS.i2c X.here hx rfl hd rfl h) k
theorem lcmp (X : Stand p l e R s m args below meth c T locs cells slots) (hx : p.tables.exec = Jvm.exec) {x y : Int64} (hd : decode c.code pc = .ok (.lcmp, 1)) (hq : pc + 1 = q) (k : EndsP p e below m Φ T (mkF m q Ls (.int (lcmpW x y) :: st))) : EndsP p e below m Φ T (mkF m pc Ls (.long y :: .long x :: st)) := step (fun _ h => by subst hq; exact XS.lcmp X.here hx rfl hd rfl h) k
theorem dup (X : Stand p l e R s m args below meth c T locs cells slots) (hx : p.tables.exec = Jvm.exec) {v : Value} (hc : v.category = 1) (hd : decode c.code pc = .ok (.dup, 1)) (hq : pc + 1 = q) (k : EndsP p e below m Φ T (mkF m q Ls (v :: v :: st))) : EndsP p e below m Φ T (mkF m pc Ls (v :: st)) := step (fun _ h => by subst hq; exact XS.dup X.here hx rfl hd rfl hc h) k
theorem pop (X : Stand p l e R s m args below meth c T locs cells slots) (hx : p.tables.exec = Jvm.exec) {v : Value} (hc : v.category = 1) (hd : decode c.code pc = .ok (.pop, 1)) (hq : pc + 1 = q) (k : EndsP p e below m Φ T (mkF m q Ls (st))) : EndsP p e below m Φ T (mkF m pc Ls (v :: st)) := step (fun _ h => by subst hq; exact XS.pop X.here hx rfl hd rfl hc h) k
theorem iinc (X : Stand p l e R s m args below meth c T locs cells slots) (hx : p.tables.exec = Jvm.exec) {k0 : Nat} {cst : Int} {x v : Int32} {l' : Array Slot} (hl : Ls[k0]? = some (.val (.int x))) (hv : x + Int32.ofInt cst = v) (hl' : storeLocals Ls k0 (.int v) = some l') (hd : decode c.code pc = .ok (.iinc k0 cst, 3)) (hq : pc + 3 = q) (k : EndsP p e below m Φ T (mkF m q l' (st))) : EndsP p e below m Φ T (mkF m pc Ls (st)) := step (fun _ h => by subst hq; exact XS.iinc X.here hx rfl hd hl (by rw [hv]; exact hl') h) k
theorem goto (X : Stand p l e R s m args below meth c T locs cells slots) (hx : p.tables.exec = Jvm.exec) {o : Int}  (hd : decode c.code pc = .ok (.goto o, 3)) (ho : 0 ≤ (pc : Int) + o) (hq : ((pc : Int) + o).toNat = q) (k : EndsP p e below m Φ T (mkF m q Ls (st))) : EndsP p e below m Φ T (mkF m pc Ls (st)) := step (fun _ h => XS.goto X.here hx rfl rfl hd ho hq h) k
theorem ifYes (X : Stand p l e R s m args below meth c T locs cells slots) (hx : p.tables.exec = Jvm.exec) {o : Int} {cd : ClassFile.Cond} {x : Int32} (hc : ifCond.holds cd x = true) (hd : decode c.code pc = .ok (.ifCond cd o, 3)) (ho : 0 ≤ (pc : Int) + o) (hq : ((pc : Int) + o).toNat = q) (k : EndsP p e below m Φ T (mkF m q Ls (st))) : EndsP p e below m Φ T (mkF m pc Ls (.int x :: st)) := step (fun _ h => XS.ifYes X.here hx rfl rfl hd rfl hc ho hq h) k
theorem icmpYes (X : Stand p l e R s m args below meth c T locs cells slots) (hx : p.tables.exec = Jvm.exec) {o : Int} {cd : ClassFile.Cond} {x y : Int32} (hc : if_icmp.holds cd x y = true) (hd : decode c.code pc = .ok (.if_icmp cd o, 3)) (ho : 0 ≤ (pc : Int) + o) (hq : ((pc : Int) + o).toNat = q) (k : EndsP p e below m Φ T (mkF m q Ls (st))) : EndsP p e below m Φ T (mkF m pc Ls (.int y :: .int x :: st)) := step (fun _ h => XS.icmpYes X.here hx rfl rfl hd rfl hc ho hq h) k
theorem ifnullYes (X : Stand p l e R s m args below meth c T locs cells slots) (hx : p.tables.exec = Jvm.exec) {o : Int}  (hd : decode c.code pc = .ok (.ifnull o, 3)) (ho : 0 ≤ (pc : Int) + o) (hq : ((pc : Int) + o).toNat = q) (k : EndsP p e below m Φ T (mkF m q Ls (st))) : EndsP p e below m Φ T (mkF m pc Ls (.null :: st)) := step (fun _ h => XS.ifnullYes X.here hx rfl rfl hd rfl ho hq h) k
theorem ifnonnullYes (X : Stand p l e R s m args below meth c T locs cells slots) (hx : p.tables.exec = Jvm.exec) {o : Int} {b : Addr} (hd : decode c.code pc = .ok (.ifnonnull o, 3)) (ho : 0 ≤ (pc : Int) + o) (hq : ((pc : Int) + o).toNat = q) (k : EndsP p e below m Φ T (mkF m q Ls (st))) : EndsP p e below m Φ T (mkF m pc Ls (.ref b :: st)) := step (fun _ h => XS.ifnonnullYes X.here hx rfl rfl hd rfl ho hq h) k
theorem ifNo (X : Stand p l e R s m args below meth c T locs cells slots) (hx : p.tables.exec = Jvm.exec) {o : Int} {cd : ClassFile.Cond} {x : Int32} (hc : ifCond.holds cd x = false) (hd : decode c.code pc = .ok (.ifCond cd o, 3)) (hq : pc + 3 = q) (k : EndsP p e below m Φ T (mkF m q Ls (st))) : EndsP p e below m Φ T (mkF m pc Ls (.int x :: st)) := step (fun _ h => by subst hq; exact XS.ifNo X.here hx rfl hd rfl hc h) k
theorem icmpNo (X : Stand p l e R s m args below meth c T locs cells slots) (hx : p.tables.exec = Jvm.exec) {o : Int} {cd : ClassFile.Cond} {x y : Int32} (hc : if_icmp.holds cd x y = false) (hd : decode c.code pc = .ok (.if_icmp cd o, 3)) (hq : pc + 3 = q) (k : EndsP p e below m Φ T (mkF m q Ls (st))) : EndsP p e below m Φ T (mkF m pc Ls (.int y :: .int x :: st)) := step (fun _ h => by subst hq; exact XS.icmpNo X.here hx rfl hd rfl hc h) k
theorem ifnullNo (X : Stand p l e R s m args below meth c T locs cells slots) (hx : p.tables.exec = Jvm.exec) {o : Int} {b : Addr} (hd : decode c.code pc = .ok (.ifnull o, 3)) (hq : pc + 3 = q) (k : EndsP p e below m Φ T (mkF m q Ls (st))) : EndsP p e below m Φ T (mkF m pc Ls (.ref b :: st)) := step (fun _ h => by subst hq; exact XS.ifnullNo X.here hx rfl hd rfl h) k
theorem ifnonnullNo (X : Stand p l e R s m args below meth c T locs cells slots) (hx : p.tables.exec = Jvm.exec) {o : Int} (hd : decode c.code pc = .ok (.ifnonnull o, 3)) (hq : pc + 3 = q) (k : EndsP p e below m Φ T (mkF m q Ls (st))) : EndsP p e below m Φ T (mkF m pc Ls (.null :: st)) := step (fun _ h => by subst hq; exact XS.ifnonnullNo X.here hx rfl hd rfl h) k
theorem acmp (X : Stand p l e R s m args below meth c T locs cells slots) (hx : p.tables.exec = Jvm.exec) {o : Int} {cd : ACond} {x y : Value} (h1 : x.isRef = true) (h2 : y.isRef = true) {same : Bool} (hs : decide (x = y) = same) (hd : decode c.code pc = .ok (.if_acmp cd o, 3)) (ho : 0 ≤ (pc : Int) + o) (hq : q = if acV cd same = true then ((pc : Int) + o).toNat else pc + 3) (k : EndsP p e below m Φ T (mkF m q Ls st)) : EndsP p e below m Φ T (mkF m pc Ls (y :: x :: st)) := step (fun _ h => Jvm.RoadKit.acmp X hx rfl h1 h2 rfl hd rfl hs ho hq h) k
theorem dloadN (X : Stand p l e R s m args below meth c T locs cells slots) (hx : p.tables.exec = Jvm.exec) {k0 : Fin 4} {v : UInt64} (hl : Ls[k0.val]? = some (.val (.double v))) (hd : decode c.code pc = .ok (.dload_n k0, 1)) (hq : pc + 1 = q) (k : EndsP p e below m Φ T (mkF m q Ls (.double v :: st))) : EndsP p e below m Φ T (mkF m pc Ls (st)) := step (fun _ h => by subst hq; exact XS.dloadN X.here hx rfl hd hl h) k
theorem dload (X : Stand p l e R s m args below meth c T locs cells slots) (hx : p.tables.exec = Jvm.exec) {k0 : Nat} {v : UInt64} (hl : Ls[k0]? = some (.val (.double v))) (hd : decode c.code pc = .ok (.dload k0, 2)) (hq : pc + 2 = q) (k : EndsP p e below m Φ T (mkF m q Ls (.double v :: st))) : EndsP p e below m Φ T (mkF m pc Ls (st)) := step (fun _ h => by subst hq; exact XS.dload X.here hx rfl hd hl h) k
theorem dstoreN (X : Stand p l e R s m args below meth c T locs cells slots) (hx : p.tables.exec = Jvm.exec) {k0 : Fin 4} {v : UInt64} {l' : Array Slot} (hl : storeLocals Ls k0.val (.double v) = some l') (hd : decode c.code pc = .ok (.dstore_n k0, 1)) (hq : pc + 1 = q) (k : EndsP p e below m Φ T (mkF m q l' (st))) : EndsP p e below m Φ T (mkF m pc Ls (.double v :: st)) := step (fun _ h => by subst hq; exact XS.dstoreN X.here hx rfl hd rfl hl h) k
theorem dstore (X : Stand p l e R s m args below meth c T locs cells slots) (hx : p.tables.exec = Jvm.exec) {k0 : Nat} {v : UInt64} {l' : Array Slot} (hl : storeLocals Ls k0 (.double v) = some l') (hd : decode c.code pc = .ok (.dstore k0, 2)) (hq : pc + 2 = q) (k : EndsP p e below m Φ T (mkF m q l' (st))) : EndsP p e below m Φ T (mkF m pc Ls (.double v :: st)) := step (fun _ h => by subst hq; exact XS.dstore X.here hx rfl hd rfl hl h) k
theorem i2d (X : Stand p l e R s m args below meth c T locs cells slots) (hx : p.tables.exec = Jvm.exec) {x : Int32} (hd : decode c.code pc = .ok (.i2d, 1)) (hq : pc + 1 = q) (k : EndsP p e below m Φ T (mkF m q Ls (.double (FP.i2d x) :: st))) : EndsP p e below m Φ T (mkF m pc Ls (.int x :: st)) := step (fun _ h => by subst hq; exact XS.i2dS X.here hx rfl hd rfl rfl h) k
theorem b53_i (x : Int32) : B53 x.toInt64 := by
  have h := rng32 x
  unfold B53; rw [c_i2l]
  exact ⟨Int.lt_of_lt_of_le (by decide) h.1, Int.lt_trans h.2 (by decide)⟩
theorem dcmp_i (x y : Int32) (o : CmpOp) : cmpValue (FP.dcmp (FP.i2d x) (FP.i2d y)) o = lcmpW x.toInt64 y.toInt64 := by
  rw [i2d_w, i2d_w]; exact dcmpV_w (b53_i x) (b53_i y) o
theorem dcmpI (X : Stand p l e R s m args below meth c T locs cells slots) (hx : p.tables.exec = Jvm.exec) {o : CmpOp} {x y : Int32} (hd : decode c.code pc = .ok (.dcmp o, 1)) (hq : pc + 1 = q) (k : EndsP p e below m Φ T (mkF m q Ls (.int (lcmpW x.toInt64 y.toInt64) :: st))) : EndsP p e below m Φ T (mkF m pc Ls (.double (FP.i2d y) :: .double (FP.i2d x) :: st)) := step (fun _ h => by subst hq; exact XS.dcmpS X.here hx rfl hd rfl (dcmp_i x y o) h) k
theorem ldc2Long (X : Stand p l e R s m args below meth c T locs cells slots) (hx : p.tables.exec = Jvm.exec) {Z : State} {a0 : Array Value} (hZ : Z.Warmed39 s.vm) {own : String} (hown : s.vm.findClass own = some m.cls) {index : Nat} {v : Int64} (w : (Jvm.Cond.constantLong own index v).before a0 Z = true) (hd : decode c.code pc = .ok (.ldc2_w index, 3)) (hq : pc + 3 = q) (k : EndsP p e below m Φ T (mkF m q Ls (.long v :: st))) : EndsP p e below m Φ T (mkF m pc Ls st) := step (fun t h => by subst hq; exact X.ldc2Long hx hown (mvT hZ w) (g := mkF m pc Ls st) rfl hd t h) k
theorem ldcInt (X : Stand p l e R s m args below meth c T locs cells slots) (hx : p.tables.exec = Jvm.exec) {Z : State} {a0 : Array Value} (hZ : Z.Warmed39 s.vm) {own : String} (hown : s.vm.findClass own = some m.cls) {index : Nat} {v : Int32} (w : (Jvm.Cond.constant own index v).before a0 Z = true) (hd : decode c.code pc = .ok (.ldc index, 2)) (hq : pc + 2 = q) (k : EndsP p e below m Φ T (mkF m q Ls (.int v :: st))) : EndsP p e below m Φ T (mkF m pc Ls st) := step (fun t h => by subst hq; exact X.ldcInt hx hown (mvT hZ w) (g := mkF m pc Ls st) rfl hd t h) k
theorem retZ (X : Stand p l e R s m args below meth c T locs cells slots) (hx : p.tables.exec = Jvm.exec) {z : Int32} {t : FieldType} (hret : meth.sig.returnType = some t) (ht : t = .boolean ∨ t = .byte ∨ t = .char ∨ t = .short) (hd : decode c.code pc = .ok (.ireturn, 1)) (hQ : Q (some (.int (nar t z))) T.heap locs) (hc : cells ≤ C) (hs : slots ≤ S) : Ends p l e R s m args below meth c C S Q T (mkF m pc Ls (.int z :: st)) :=
  ⟨T, _, ⟨locs, cells, slots, X, hQ, hc, hs, (fun h => by rw [hret] at h; cases h)⟩, fun fs hl => retN X hx hret ht hd hl⟩
theorem retG (X : Stand p l e R s m args below meth c T locs cells slots) (hx : p.tables.exec = Jvm.exec) {w : Value} {t : FieldType} {i : Instr} (hret : meth.sig.returnType = some t) (hn : narrow t w = w)
    (hi : (i = .ireturn ∧ (t = .int ∨ t = .boolean ∨ t = .byte ∨ t = .char ∨ t = .short) ∧ ∃ z, w = .int z) ∨ (i = .lreturn ∧ t = .long ∧ ∃ z, w = .long z) ∨ (i = .dreturn ∧ t = .double ∧ ∃ z, w = .double z) ∨ (i = .freturn ∧ t = .float ∧ ∃ z, w = .float z) ∨ (i = .areturn ∧ t.isReference = true ∧ w.isRef = true)) (hd : decode c.code pc = .ok (i, 1)) (hQ : Q (some w) T.heap locs) (hc : cells ≤ C) (hs : slots ≤ S) : Ends p l e R s m args below meth c C S Q T (mkF m pc Ls (w :: st)) :=
  ⟨T, _, ⟨locs, cells, slots, X, hQ, hc, hs, (fun h => by rw [hret] at h; cases h)⟩, fun fs hl => retOut X hx hret hn hi hd hl⟩
theorem retI (X : Stand p l e R s m args below meth c T locs cells slots) (hx : p.tables.exec = Jvm.exec) {z : Int32} (hret : meth.sig.returnType = some .int) (hd : decode c.code pc = .ok (.ireturn, 1)) (hQ : Q (some (.int z)) T.heap locs) (hc : cells ≤ C) (hs : slots ≤ S) : Ends p l e R s m args below meth c C S Q T (mkF m pc Ls (.int z :: st)) := retG X hx hret rfl (Or.inl ⟨rfl, Or.inl rfl, z, rfl⟩) hd hQ hc hs
theorem retL (X : Stand p l e R s m args below meth c T locs cells slots) (hx : p.tables.exec = Jvm.exec) {z : Int64} (hret : meth.sig.returnType = some .long) (hd : decode c.code pc = .ok (.lreturn, 1)) (hQ : Q (some (.long z)) T.heap locs) (hc : cells ≤ C) (hs : slots ≤ S) : Ends p l e R s m args below meth c C S Q T (mkF m pc Ls (.long z :: st)) := retG X hx hret rfl (Or.inr (Or.inl ⟨rfl, rfl, z, rfl⟩)) hd hQ hc hs
theorem retA (X : Stand p l e R s m args below meth c T locs cells slots) (hx : p.tables.exec = Jvm.exec) {v : Value} {t : FieldType} (hret : meth.sig.returnType = some t) (ht : t.isReference = true) (hv : v.isRef = true) (hn : narrow t v = v) (hd : decode c.code pc = .ok (.areturn, 1)) (hQ : Q (some v) T.heap locs) (hc : cells ≤ C) (hs : slots ≤ S) : Ends p l e R s m args below meth c C S Q T (mkF m pc Ls (v :: st)) := retG X hx hret hn (Or.inr (Or.inr (Or.inr (Or.inr ⟨rfl, ht, hv⟩)))) hd hQ hc hs
theorem retV (X : Stand p l e R s m args below meth c T locs cells slots) (hx : p.tables.exec = Jvm.exec) (hret : meth.sig.returnType = none) (hd : decode c.code pc = .ok (.return_, 1)) (hQ : Q none T.heap locs) (hc : cells ≤ C) (hs : slots ≤ S) : Ends p l e R s m args below meth c C S Q T (mkF m pc Ls []) :=
  ⟨T, none, ⟨locs, cells, slots, X, hQ, hc, hs, (fun _ => rfl)⟩, fun fs hl => X.returnOut hx hret hd hl⟩
theorem callS (X : Stand p l e R s m args below meth c T locs cells slots) (hx : p.tables.exec = Jvm.exec) {Z : State} {a0 : Array Value} (hZ : Z.Warmed39 s.vm) {own : String} (hown : s.vm.findClass own = some m.cls) {index : Nat} {h : Heap} (eT : T.heap = h) {y : MethodName} {bytes : ByteArray} {maxL : Nat} {ret : Option FieldType} {rm : Room} {Qc : Option Value → Heap → List Loc → Prop} (w1 : (Jvm.Cond.methodLink own index y).before a0 Z = true) (w2 : (Jvm.Cond.static y).before a0 Z = true) (w3 : (Jvm.Cond.initialized y.cls).before a0 Z = true) (w4 : (Jvm.Cond.code y bytes maxL ret).before a0 Z = true) (hy : y.cls ≠ "java/lang/invoke/MethodHandle" ∧ y.cls ≠ "java/lang/invoke/VarHandle")
    {argsL : List Value} (hM : Pays l Z y bytes maxL ret [] rm argsL.toArray h Qc) (hsize : Ls.size = c.maxLocals) {ps : List FieldType} {rt : Option FieldType} (hsig : parseMethodDescriptor y.desc = some ⟨ps, rt⟩) (hlen : argsL.length = ps.length) {W : Nat} (hW : (rest.map fun v => v.category).sum ≤ W) (hf : rm.frames + 1 ≤ R.frames) (hl : W + (maxL + 11) + rm.locals ≤ R.locals) (hcc : cells + rm.cells ≤ R.cells) (hss : slots + rm.slots ≤ R.slots) (hst : st = argsL.reverse ++ rest) (hd : decode c.code pc = .ok (.invokestatic index, 3)) (hq : pc + 3 = q) (k : ∀ (T' : State) (v : Option Value) (L : List Loc), Stand p l e R s m args below meth c T' (locs ++ L) (cells + rm.cells) (slots + rm.slots) → Qc v T'.heap L → EndsP p e below m Φ T' (mkF m q Ls (v.toList ++ rest))) : EndsP p e below m Φ T (mkF m pc Ls st) := by
  obtain ⟨v, _, ⟨T', L', k', n'⟩, -, X', ⟨L, hQ, l1, y1, z1⟩, stp⟩ := Jvm.LawKit.callS X hx (y := y) hown (mvT hZ w1) (mvT hZ w2) (mvT hZ w3) (mvT hZ w4) hy (backOf (W := W) hM hZ w4 w3 hf hl) (g := mkF m pc Ls st) rfl hsize (argsL := argsL) (rest := rest) (lenOf hsig hlen) hst (by show 2 * 0 + _ ≤ _; omega) hd (fun _ _ => ⟨rfl, eT, hcc, hss⟩)
  dsimp only [Pt.U, Pt.locs, Pt.cells, Pt.slots] at X' l1 y1 z1 stp hQ
  subst l1 y1 z1 hq
  exact step stp (k T' v L X' hQ)
theorem callI (X : Stand p l e R s m args below meth c T locs cells slots) (hx : p.tables.exec = Jvm.exec) {Z : State} {a0 : Array Value} (hZ : Z.Warmed39 s.vm) {own : String} (hown : s.vm.findClass own = some m.cls) {index : Nat} {h : Heap} (eT : T.heap = h) {y : MethodName} {bytes : ByteArray} {maxL : Nat} {rm : Room} {Qc : Option Value → Heap → List Loc → Prop} (hy1 : y.name = "<init>") (w1 : (Jvm.Cond.methodLink own index y).before a0 Z = true) (w2 : (Jvm.Cond.instanceMethod y).before a0 Z = true) (w3 : (Jvm.Cond.initialized y.cls).before a0 Z = true) (w4 : (Jvm.Cond.code y bytes maxL none).before a0 Z = true) (hy : y.cls ≠ "java/lang/invoke/MethodHandle" ∧ y.cls ≠ "java/lang/invoke/VarHandle")
    {a : Addr} {argsL : List Value} (hM : Pays l Z y bytes maxL none [] rm (Value.ref a :: argsL).toArray h Qc) (hsize : Ls.size = c.maxLocals) {ps : List FieldType} {rt : Option FieldType} (hsig : parseMethodDescriptor y.desc = some ⟨ps, rt⟩) (hlen : argsL.length = ps.length) {W : Nat} (hW : (rest.map fun v => v.category).sum ≤ W) (hf : rm.frames + 1 ≤ R.frames) (hl : W + (maxL + 11) + rm.locals ≤ R.locals) (hcc : cells + rm.cells ≤ R.cells) (hss : slots + rm.slots ≤ R.slots) (hst : st = argsL.reverse ++ .ref a :: rest) (hd : decode c.code pc = .ok (.invokespecial index, 3)) (hq : pc + 3 = q) (k : ∀ (T' : State) (v : Option Value) (L : List Loc), Stand p l e R s m args below meth c T' (locs ++ L) (cells + rm.cells) (slots + rm.slots) → Qc v T'.heap L → EndsP p e below m Φ T' (mkF m q Ls (v.toList ++ rest))) : EndsP p e below m Φ T (mkF m pc Ls st) := by
  obtain ⟨v, _, ⟨T', L', k', n'⟩, -, X', ⟨L, hQ, l1, y1, z1⟩, stp⟩ := X.specialBack hx (y := y) hy1 hown (mvT hZ w1) (mvT hZ w2) (mvT hZ w4) hy (backOf (W := W) hM hZ w4 w3 hf hl) (g := mkF m pc Ls st) rfl hsize (Steps.refl _) (a := a) (argsL := argsL) (rest := rest) (lenOf hsig hlen) hst (by show 2 * 0 + _ ≤ _; omega) hd (fun _ _ => ⟨rfl, eT, hcc, hss⟩)
  dsimp only [Pt.U, Pt.locs, Pt.cells, Pt.slots] at X' l1 y1 z1 stp hQ
  subst l1 y1 z1 hq
  exact step (fun _ h => stp.trans h) (k T' v L X' hQ)
theorem callV (X : Stand p l e R s m args below meth c T locs cells slots) (hx : p.tables.exec = Jvm.exec) {Z : State} {a0 : Array Value} (hZ : Z.Warmed39 s.vm) {own : String} (hown : s.vm.findClass own = some m.cls) {index : Nat} {h : Heap} (eT : T.heap = h) {y z : MethodName} {K : String} {bytes : ByteArray} {maxL : Nat} {ret : Option FieldType} {rm : Room} {Qc : Option Value → Heap → List Loc → Prop} (w1 : (Jvm.Cond.methodLink own index y).before a0 Z = true) (w2 : (Jvm.Cond.declares y).before a0 Z = true) (hnf : NotFace s y) (w5 : (Jvm.Cond.selects K y z).before a0 Z = true) (w6 : (Jvm.Cond.instanceMethod z).before a0 Z = true) (w3 : (Jvm.Cond.initialized z.cls).before a0 Z = true) (w4 : (Jvm.Cond.code z bytes maxL ret).before a0 Z = true) (hy : y.cls ≠ "java/lang/invoke/MethodHandle" ∧ y.cls ≠ "java/lang/invoke/VarHandle")
    {a : Addr} (E : Exa Z h a K) {argsL : List Value} (hM : Pays l Z z bytes maxL ret [] rm (Value.ref a :: argsL).toArray h Qc) (hsize : Ls.size = c.maxLocals) {ps : List FieldType} {rt : Option FieldType} (hsig : parseMethodDescriptor y.desc = some ⟨ps, rt⟩) (hlen : argsL.length = ps.length) {W : Nat} (hW : (rest.map fun v => v.category).sum ≤ W) (hf : rm.frames + 1 ≤ R.frames) (hl : W + (maxL + 11) + rm.locals ≤ R.locals) (hcc : cells + rm.cells ≤ R.cells) (hss : slots + rm.slots ≤ R.slots) (hst : st = argsL.reverse ++ .ref a :: rest) (hd : decode c.code pc = .ok (.invokevirtual index, 3)) (hq : pc + 3 = q) (k : ∀ (T' : State) (v : Option Value) (L : List Loc), Stand p l e R s m args below meth c T' (locs ++ L) (cells + rm.cells) (slots + rm.slots) → Qc v T'.heap L → EndsP p e below m Φ T' (mkF m q Ls (v.toList ++ rest))) : EndsP p e below m Φ T (mkF m pc Ls st) := by
  obtain ⟨cq, kq, qa, qb, qc⟩ := isOf hZ eT E
  obtain ⟨v, _, ⟨T', L', k', n'⟩, -, X', ⟨L, hQ, l1, y1, z1⟩, stp⟩ := X.virtualBack hx (y := y) (z := z) hown (mvT hZ w1) (mvT hZ w2) hnf (mvT hZ w5) (mvT hZ w6) hy (backOf (W := W) hM hZ w4 w3 hf hl) qa qc (g := mkF m pc Ls st) rfl hsize (Steps.refl _) (argsL := argsL) (rest := rest) (lenOf hsig hlen) hst (by show 2 * 0 + _ ≤ _; omega) hd (fun _ _ => ⟨rfl, eT, hcc, hss⟩)
  dsimp only [Pt.U, Pt.locs, Pt.cells, Pt.slots] at X' l1 y1 z1 stp hQ
  subst l1 y1 z1 hq
  exact step (fun _ h => stp.trans h) (k T' v L X' hQ)
theorem pureK {T' : State} {v V : Option Value} {h : Heap} {L : List Loc} (X' : Stand p l e R s m args below meth c T' (locs ++ L) (cells + 0) (slots + 0)) (hQ : RetQ V h v T'.heap L) : Stand p l e R s m args below meth c T' locs cells slots ∧ T'.heap = h ∧ v = V := by
  obtain ⟨h1, h2, rfl⟩ := hQ
  rw [List.append_nil] at X'
  exact ⟨X', h2, h1⟩
theorem iteP {α : Type} {P : α → Prop} {c : Prop} [Decidable c] {a b : α} (h1 : P a) (h2 : P b) : P (if c then a else b) := by split <;> assumption
theorem cat_of {v : Value} (h : v.isRef = true) : v.category = 1 := by rcases ref_cases h with rfl | ⟨a, rfl⟩ <;> rfl
theorem c_t {cd : ClassFile.Cond} {x : Int32} {b : Bool} (h : if_icmp.holds cd x 0 = b) : ifCond.holds cd x = b := (if0 cd x).trans h
theorem Ext_trans {h0 h h' : Heap} (E : Ext h0 h) (E' : Ext h h') : Ext h0 h' := ⟨Nat.le_trans E.1 E'.1, fun a c q => E'.2 a c (E.2 a c q)⟩
theorem Ext_wr {h0 h h' : Heap} {a : Addr} {sl : Nat} {v : Value} (E : Ext h0 h) (W : Wr h h' a sl v) (q : h0.size ≤ a) : Ext h0 h' :=
  ⟨Nat.le_trans E.1 (Keep.of_wr W).1, fun b c r => (Keep.of_wr W).2.1 b c (E.2 b c r) (ninS (Nat.ne_of_lt (Nat.lt_of_lt_of_le (Array.getElem?_eq_some_iff.mp r).1 q)) nin0)⟩
theorem Ext_keep {h0 h h' : Heap} {ws : List Addr} (E : Ext h0 h) (K : Keep h h' ws) (q : ∀ x ∈ ws, h0.size ≤ x) : Ext h0 h' :=
  ⟨Nat.le_trans E.1 K.1, fun b c r => K.2.1 b c (E.2 b c r) fun z => absurd (Array.getElem?_eq_some_iff.mp r).1 (Nat.not_lt.mpr (q b z))⟩
theorem rr_t {a b : Addr} (h : a = b) : decide ((Value.ref a : Value) = .ref b) = true := decide_eq_true (congrArg Value.ref h)
theorem rr_f {a b : Addr} (h : ¬ a = b) : decide ((Value.ref a : Value) = .ref b) = false := decide_eq_false fun q => h (Value.ref.inj q)
theorem l_t {x y : Int64} (h : x < y) : lcmpW x y < 0 := (lw_lt x y).mpr h
theorem l_f {x y : Int64} (h : ¬ x < y) : ¬ lcmpW x y < 0 := fun q => h ((lw_lt x y).mp q)
theorem g_t {x y : Int64} (h : y < x) : 0 < lcmpW x y := (lw_gt x y).mpr h
theorem g_f {x y : Int64} (h : ¬ y < x) : ¬ 0 < lcmpW x y := fun q => h ((lw_gt x y).mp q)
theorem e_t {x y : Int64} (h : x = y) : lcmpW x y = 0 := (lw_eq x y).mpr h
theorem e_f {x y : Int64} (h : ¬ x = y) : ¬ lcmpW x y = 0 := fun q => h ((lw_eq x y).mp q)
/-- the contract of a law whose String constants may be interned meanwhile; it starts in Z itself -/
def PaysW (l : Launch) (Z : State) (y : MethodName) (bytes : ByteArray) (maxL : Nat) (ret : Option FieldType) (ws : List Jvm.Cond) (rm : Room) (as' : Array Value) (h : Heap) (Q : Option Value → Heap → List Loc → Prop) : Prop :=
  MetFree l y (head1 (Jvm.Cond.code y bytes maxL ret :: ws) rm) (fun a U => a = as' ∧ Z.Warmed39 U.vm ∧ U.heap = h ∧ U.vm = Z.vm ∧ U.heap = Z.heap) (fun _ _ _ _ _ => True) (fun _ U o U' => ∃ v L, o = .returned v ∧ Q v U'.heap L ∧ ReturnedEndW U o U' L rm.cells rm.slots)
theorem paysW {Z : State} {y : MethodName} {bytes : ByteArray} {maxL : Nat} {ret : Option FieldType} {ws : List Jvm.Cond} {rm : Room} {as' : Array Value} {h : Heap} (hpl : plainFor y = true) {F0 : MethodId → JFrame} (hF : ∀ m, entryFrame m as' maxL = F0 m)
    (k : ∀ (p : Program) (e : Env) (s : State) (m : MethodId) (below : List Frame) (meth : Method) (c : Code) (s₁ : State), p.tables.exec = Jvm.exec → c.code = bytes → c.maxLocals = maxL → Z.Warmed39 s.vm → s.vm.findClass y.cls = some m.cls → meth.name = y.name → meth.sig.returnType = ret → Stand p l e rm s m as' below meth c s₁ [] 0 0 → s₁.heap = h → s.heap = h → s.vm = Z.vm → s.heap = Z.heap →
      EndsW p l e rm s m as' below meth c rm.cells rm.slots Q s₁ (F0 m)) : PaysW l Z y bytes maxL ret ws rm as' h Q := by
  refine MetFree.of_bodySF hpl hisR ?_
  intro p e s m args below meth c s₁ Bd hml0 hP hK
  obtain ⟨rfl, hZ, hh, hvm, hhz⟩ := hP
  obtain ⟨T', v, ⟨vm₁, n, locs, cells, slots, hS, hn, X, hQ, h3, h4, h5⟩, h6⟩ := k p e s m below meth c s₁ Bd.exec Bd.bytes hml0 hZ (findClass_of_methodNamed Bd.named) (name_of_methodNamed Bd.named Bd.method).1 Bd.returns (Stand.of_body Bd) (by rw [← hh, Bd.state]; rfl) hh hvm hhz
  obtain ⟨fs, hr, hrun, hended, hR1, hR2, hR3, hR4⟩ := X.leaveW hS hn (v := v) h5
  exact ⟨_, _, castTop (hF m) (h6 fs hr), hrun, hended, v, locs, rfl, hQ, hR1, hR2, hR3, hR4.mono h3 h4⟩
theorem toW {vm₁ : Vm} {n : Nat} {F : JFrame} (hS : s.Since vm₁ n) (k : Ends p l e R (s.setVm vm₁) m args below meth c C S (fun v h L => Q v h L ∧ n ≤ h.size) T F) : EndsW p l e R s m args below meth c C S Q T F := by
  obtain ⟨T', v, ⟨locs, cells, slots, X, hQ, h3, h4, h5⟩, h6⟩ := k
  exact ⟨T', v, ⟨vm₁, n, locs, cells, slots, hS, hQ.2, X, hQ.1, h3, h4, h5⟩, h6⟩
/-- the heap is no smaller than k -/
def Sz (k : Nat) (h : Heap) : Prop := k ≤ h.size
theorem Sz.ext {k : Nat} {h h' : Heap} (F : Sz k h) (E : Ext h h') : Sz k h' := Nat.le_trans F E.1
theorem Sz.wr {k : Nat} {h h' : Heap} {a : Addr} {sl : Nat} {v : Value} (F : Sz k h) (W : Wr h h' a sl v) : Sz k h' := Nat.le_trans F (Keep.of_wr W).1
end
end Jvm.EKit
namespace Jvm.EKit
open Sem ClassFile Op Lib Jvm.Stand Jvm.Free Jvm.LawKit Jvm.RoadKit
/-- the array at a: its class, kind, length, and what lies at each place -/
def Ary (Z : State) (h : Heap) (a : Addr) (k : ClassId) (ty : FieldType) (n : Int32) (f : Int32 → Value) : Prop :=
  ∃ cl : Cell, Arr Z h a cl ty ∧ cl.cls = k ∧ cl.slots.size = n.toNatClampNeg ∧ ¬ n < 0 ∧ ∀ j : Int32, ¬ j < 0 → j < n → cl.slots[j.toNatClampNeg]? = some (f j)
section
variable {Z : State} {h h' : Heap} {a b : Addr} {k : ClassId} {ty : FieldType} {n : Int32} {f : Int32 → Value}
theorem Ary.lt (F : Ary Z h a k ty n f) : a < h.size := by obtain ⟨cl, A, -⟩ := F; exact A.lt
theorem Ary.ext (F : Ary Z h a k ty n f) (E : Ext h h') : Ary Z h' a k ty n f := by obtain ⟨cl, A, r⟩ := F; exact ⟨cl, A.ext E, r⟩
theorem Ary.other {sl : Nat} {v : Value} (F : Ary Z h b k ty n f) (W : Wr h h' a sl v) (q : b ≠ a) : Ary Z h' b k ty n f := by obtain ⟨cl, A, r⟩ := F; exact ⟨cl, A.other W q, r⟩
theorem Ary.keep {ws : List Addr} (F : Ary Z h a k ty n f) (K : Keep h h' ws) (q : a ∉ ws) : Ary Z h' a k ty n f := by obtain ⟨cl, A, r⟩ := F; exact ⟨cl, ⟨K.2.1 a cl A.1 q, A.2⟩, r⟩
theorem Ary.new (A : Arr Z h a (newA k ty n) ty) (q : ¬ n < 0) : Ary Z h a k ty n (fun _ => defaultValue ty) :=
  ⟨_, A, rfl, sz_new _ _ _, q, fun j h1 h2 => get_new (by rw [← sz_new k ty n]; exact inb_of (sz_new k ty n) ⟨h1, h2⟩)⟩
theorem Ary.eq {g : Int32 → Value} (F : Ary Z h a k ty n f) (q : ∀ j : Int32, ¬ j < 0 → j < n → f j = g j) : Ary Z h a k ty n g := by
  obtain ⟨cl, A, r1, r2, r3, r4⟩ := F; exact ⟨cl, A, r1, r2, r3, fun j h1 h2 => (r4 j h1 h2).trans (congrArg some (q j h1 h2))⟩
theorem evalEq {args : Array Value} {first s : State} {o : Option Outcome} {idx : List Nat} {t u : Jvm.Term} {v : Value} (h : (Jvm.Cond.eq t u).value args first o s idx = some true) (hu : u.eval args first o idx s = some v) : t.eval args first o idx s = some v := by
  simp only [Cond.value, hu] at h
  cases ht : t.eval args first o idx s with
  | none => simp [ht] at h
  | some w => cases w <;> cases v <;> simp [ht] at h <;> simp [h]
theorem evalLen {args : Array Value} {first s : State} {o : Option Outcome} {idx : List Nat} {t : Jvm.Term} {x : Addr} {cl : Cell} {z : Int32} (h : (Jvm.Term.length t).eval args first o idx s = some (.int z)) (ht : t.eval args first o idx s = some (.ref x)) (A : Arr s s.heap x cl ty) : cl.slots.size = z.toNatClampNeg ∧ ¬ z < 0 := by
  have ha := A.fin (U := s) (Vm.Alike.refl _)
  simp only [Term.eval, ht, ha, Option.bind_eq_bind, Option.bind_some] at h
  by_cases hl : cl.slots.size < 2 ^ 31
  · simp [hl] at h
    subst h
    have e : cl.slots.size.toInt32.toInt = cl.slots.size := len_toInt hl
    refine ⟨by simp only [Int32.toNatClampNeg, e]; rfl, ?_⟩
    rw [Int32.lt_iff_toInt_lt, e]; exact Int.not_lt.mpr (Int.natCast_nonneg _)
  · simp [hl] at h
theorem Ary.start {cl : Cell} (A : Arr Z h a cl ty) (r2 : cl.slots.size = n.toNatClampNeg) (r3 : ¬ n < 0) (r4 : ∀ i : Nat, i < n.toNatClampNeg → cl.slots[i]? = some (f (Int32.ofNat i))) : Ary Z h a cl.cls ty n f := by
  refine ⟨cl, A, rfl, r2, r3, fun j h1 h2 => ?_⟩
  have e := back32 h1
  have q := r4 j.toNatClampNeg (by
    rw [Int32.lt_iff_toInt_lt] at h1 h2
    rw [show (0 : Int32).toInt = 0 from rfl] at h1
    simp only [Int32.toNatClampNeg]; omega)
  rw [q]; exact congrArg (fun z => some (f z)) e.1
theorem clamp_inj {i j : Int32} (hi : ¬ i < 0) (hj : ¬ j < 0) (q : i.toNatClampNeg = j.toNatClampNeg) : i = j := by
  rw [Int32.lt_iff_toInt_lt, show (0 : Int32).toInt = 0 from rfl] at hi hj
  apply Int32.toInt_inj.mp
  have e1 : i.toNatClampNeg = i.toInt.toNat := rfl
  have e2 : j.toNatClampNeg = j.toInt.toNat := rfl
  omega
theorem Ary.set {cl : Cell} {i : Int32} {v : Value} (A : Arr Z h a cl ty) (r1 : cl.cls = k) (r2 : cl.slots.size = n.toNatClampNeg) (r3 : ¬ n < 0) (r4 : ∀ j : Int32, ¬ j < 0 → j < n → cl.slots[j.toNatClampNeg]? = some (f j)) (hi : ¬ i < 0) (hn : i < n) (W : Wr h h' a i.toNatClampNeg v) : Ary Z h' a k ty n (fun j => if j = i then v else f j) := by
  refine ⟨_, A.same W, r1, (sz_set _ _ _).trans r2, r3, fun j h1 h2 => ?_⟩
  by_cases q : j = i
  · exact (get_hit (inb_of r2 ⟨hi, hn⟩) q).trans (congrArg some (if_pos q).symm)
  · exact ((get_miss hi h1 q).trans (r4 j h1 h2)).trans (congrArg some (if_neg q).symm)
end
section
variable {p : Program} {l : Launch} {e : Env} {R : Room} {s : State} {m : MethodId} {args : Array Value} {below : List Frame} {meth : Method} {c : Code} {T : State} {locs : List Loc} {cells slots : Nat} {C S : Nat} {Q : Option Value → Heap → List Loc → Prop} {Φ : State → Option Value → Prop} {pc q : Nat} {Ls : Array Slot} {st : List Value} {Z : State} {h : Heap} {a : Addr} {k : ClassId} {n j : Int32} {f : Int32 → Value}

theorem alen (X : Stand p l e R s m args below meth c T locs cells slots) (hx : p.tables.exec = Jvm.exec) (hZ : Z.Warmed39 s.vm) (eT : T.heap = h) {ty : FieldType} (F : Ary Z h a k ty n f) (hd : decode c.code pc = .ok (.arraylength, 1)) (hq : pc + 1 = q) (kk : EndsP p e below m Φ T (mkF m q Ls (.int n :: st))) : EndsP p e below m Φ T (mkF m pc Ls (.ref a :: st)) := by
  obtain ⟨cl, A, r1, r2, r3, r4⟩ := F
  subst hq
  exact step (fun t h => X.arraylength hx (by rw [eT]; exact A.1) (State.isArrayOf_alike hZ.alike A.2.1) (g := mkF m pc Ls (.ref a :: st)) rfl rfl hd t (by rw [len_of r2 r3]; exact h)) kk
theorem iaload (X : Stand p l e R s m args below meth c T locs cells slots) (hx : p.tables.exec = Jvm.exec) (hZ : Z.Warmed39 s.vm) (eT : T.heap = h) (F : Ary Z h a k .int n f) (h1 : ¬ j < 0) (h2 : j < n) {v : Value} (hv : f j = v) (hd : decode c.code pc = .ok (.iaload, 1)) (hq : pc + 1 = q) (kk : EndsP p e below m Φ T (mkF m q Ls (v :: st))) : EndsP p e below m Φ T (mkF m pc Ls (.int j :: .ref a :: st)) := by
  obtain ⟨cl, A, r1, r2, r3, r4⟩ := F
  subst hq hv
  exact step (fun t h => X.iaload hx (by rw [eT]; exact A.1) (State.isArrayOf_alike hZ.alike A.2.1) A.2.2 (inb_of r2 ⟨h1, h2⟩) (r4 j h1 h2) (g := mkF m pc Ls (.int j :: .ref a :: st)) rfl rfl hd t h) kk
theorem laload (X : Stand p l e R s m args below meth c T locs cells slots) (hx : p.tables.exec = Jvm.exec) (hZ : Z.Warmed39 s.vm) (eT : T.heap = h) (F : Ary Z h a k .long n f) (h1 : ¬ j < 0) (h2 : j < n) {v : Value} (hv : f j = v) (hd : decode c.code pc = .ok (.laload, 1)) (hq : pc + 1 = q) (kk : EndsP p e below m Φ T (mkF m q Ls (v :: st))) : EndsP p e below m Φ T (mkF m pc Ls (.int j :: .ref a :: st)) := by
  obtain ⟨cl, A, r1, r2, r3, r4⟩ := F
  subst hq hv
  exact step (fun t h => X.laload hx (by rw [eT]; exact A.1) (State.isArrayOf_alike hZ.alike A.2.1) A.2.2 (inb_of r2 ⟨h1, h2⟩) (r4 j h1 h2) (g := mkF m pc Ls (.int j :: .ref a :: st)) rfl rfl hd t h) kk
theorem caload (X : Stand p l e R s m args below meth c T locs cells slots) (hx : p.tables.exec = Jvm.exec) (hZ : Z.Warmed39 s.vm) (eT : T.heap = h) (F : Ary Z h a k .char n f) (h1 : ¬ j < 0) (h2 : j < n) {v : Value} (hv : f j = v) (hd : decode c.code pc = .ok (.caload, 1)) (hq : pc + 1 = q) (kk : EndsP p e below m Φ T (mkF m q Ls (v :: st))) : EndsP p e below m Φ T (mkF m pc Ls (.int j :: .ref a :: st)) := by
  obtain ⟨cl, A, r1, r2, r3, r4⟩ := F
  subst hq hv
  exact step (fun t h => X.caload hx (by rw [eT]; exact A.1) (State.isArrayOf_alike hZ.alike A.2.1) A.2.2 (inb_of r2 ⟨h1, h2⟩) (r4 j h1 h2) (g := mkF m pc Ls (.int j :: .ref a :: st)) rfl rfl hd t h) kk
theorem baloadB (X : Stand p l e R s m args below meth c T locs cells slots) (hx : p.tables.exec = Jvm.exec) (hZ : Z.Warmed39 s.vm) (eT : T.heap = h) (F : Ary Z h a k .byte n f) (h1 : ¬ j < 0) (h2 : j < n) {v : Value} (hv : f j = v) (hd : decode c.code pc = .ok (.baload, 1)) (hq : pc + 1 = q) (kk : EndsP p e below m Φ T (mkF m q Ls (v :: st))) : EndsP p e below m Φ T (mkF m pc Ls (.int j :: .ref a :: st)) := by
  obtain ⟨cl, A, r1, r2, r3, r4⟩ := F
  subst hq hv
  exact step (fun t h => X.baloadBytes hx (by rw [eT]; exact A.1) (State.isArrayOf_alike hZ.alike A.2.1) A.2.2 (inb_of r2 ⟨h1, h2⟩) (r4 j h1 h2) (g := mkF m pc Ls (.int j :: .ref a :: st)) rfl rfl hd t h) kk
theorem baloadZ (X : Stand p l e R s m args below meth c T locs cells slots) (hx : p.tables.exec = Jvm.exec) (hZ : Z.Warmed39 s.vm) (eT : T.heap = h) (F : Ary Z h a k .boolean n f) (h1 : ¬ j < 0) (h2 : j < n) {v : Value} (hv : f j = v) (hd : decode c.code pc = .ok (.baload, 1)) (hq : pc + 1 = q) (kk : EndsP p e below m Φ T (mkF m q Ls (v :: st))) : EndsP p e below m Φ T (mkF m pc Ls (.int j :: .ref a :: st)) := by
  obtain ⟨cl, A, r1, r2, r3, r4⟩ := F
  subst hq hv
  exact step (fun t h => X.baloadBooleans hx (by rw [eT]; exact A.1) (State.isArrayOf_alike hZ.alike A.2.1) A.2.2 (inb_of r2 ⟨h1, h2⟩) (r4 j h1 h2) (g := mkF m pc Ls (.int j :: .ref a :: st)) rfl rfl hd t h) kk
theorem aaload (X : Stand p l e R s m args below meth c T locs cells slots) (hx : p.tables.exec = Jvm.exec) (hZ : Z.Warmed39 s.vm) (eT : T.heap = h) {ty : FieldType} (hty : ty.isReference = true) (F : Ary Z h a k ty n f) (h1 : ¬ j < 0) (h2 : j < n) {v : Value} (hv : f j = v) (hd : decode c.code pc = .ok (.aaload, 1)) (hq : pc + 1 = q) (kk : EndsP p e below m Φ T (mkF m q Ls (v :: st))) : EndsP p e below m Φ T (mkF m pc Ls (.int j :: .ref a :: st)) := by
  obtain ⟨cl, A, r1, r2, r3, r4⟩ := F
  subst hq hv
  exact step (fun t h => X.aaload hx (by rw [eT]; exact A.1) (State.isArrayOf_alike hZ.alike A.2.1) hty A.2.2 (inb_of r2 ⟨h1, h2⟩) (r4 j h1 h2) (g := mkF m pc Ls (.int j :: .ref a :: st)) rfl rfl hd t h) kk
theorem iastore (X : Stand p l e R s m args below meth c T locs cells slots) (hx : p.tables.exec = Jvm.exec) (hZ : Z.Warmed39 s.vm) (eT : T.heap = h) (F : Ary Z h a k .int n f) {x : Int32} (h1 : ¬ j < 0) (h2 : j < n) (hd : decode c.code pc = .ok (.iastore, 1)) (hq : pc + 1 = q)
    (kk : ∀ (T' : State) (h' : Heap), Stand p l e R s m args below meth c T' (locs ++ [⟨a, j.toNatClampNeg⟩]) cells slots → T'.heap = h' → Wr h h' a j.toNatClampNeg (.int x) → Ary Z h' a k .int n (fun i => if i = j then .int x else f i) → EndsP p e below m Φ T' (mkF m q Ls st)) : EndsP p e below m Φ T (mkF m pc Ls (.int x :: .int j :: .ref a :: st)) := by
  obtain ⟨cl, A, r1, r2, r3, r4⟩ := F
  obtain ⟨T', h', X', e', W', stp⟩ := stI X hx hZ eT A (j := j) (x := x) (inb_of r2 ⟨h1, h2⟩) (g := mkF m pc Ls (.int x :: .int j :: .ref a :: st)) rfl rfl hd
  subst hq
  exact step stp (kk T' h' X' e' W' (Ary.set A r1 r2 r3 r4 h1 h2 W'))
theorem lastore (X : Stand p l e R s m args below meth c T locs cells slots) (hx : p.tables.exec = Jvm.exec) (hZ : Z.Warmed39 s.vm) (eT : T.heap = h) (F : Ary Z h a k .long n f) {x : Int64} (h1 : ¬ j < 0) (h2 : j < n) (hd : decode c.code pc = .ok (.lastore, 1)) (hq : pc + 1 = q)
    (kk : ∀ (T' : State) (h' : Heap), Stand p l e R s m args below meth c T' (locs ++ [⟨a, j.toNatClampNeg⟩]) cells slots → T'.heap = h' → Wr h h' a j.toNatClampNeg (.long x) → Ary Z h' a k .long n (fun i => if i = j then .long x else f i) → EndsP p e below m Φ T' (mkF m q Ls st)) : EndsP p e below m Φ T (mkF m pc Ls (.long x :: .int j :: .ref a :: st)) := by
  obtain ⟨cl, A, r1, r2, r3, r4⟩ := F
  obtain ⟨T', h', X', e', W', stp⟩ := stJ X hx hZ eT A (j := j) (x := x) (inb_of r2 ⟨h1, h2⟩) (g := mkF m pc Ls (.long x :: .int j :: .ref a :: st)) rfl rfl hd
  subst hq
  exact step stp (kk T' h' X' e' W' (Ary.set A r1 r2 r3 r4 h1 h2 W'))
theorem castore (X : Stand p l e R s m args below meth c T locs cells slots) (hx : p.tables.exec = Jvm.exec) (hZ : Z.Warmed39 s.vm) (eT : T.heap = h) (F : Ary Z h a k .char n f) {x : Int32} (h1 : ¬ j < 0) (h2 : j < n) (hd : decode c.code pc = .ok (.castore, 1)) (hq : pc + 1 = q)
    (kk : ∀ (T' : State) (h' : Heap), Stand p l e R s m args below meth c T' (locs ++ [⟨a, j.toNatClampNeg⟩]) cells slots → T'.heap = h' → Wr h h' a j.toNatClampNeg (.int (nar .char x)) → Ary Z h' a k .char n (fun i => if i = j then .int (nar .char x) else f i) → EndsP p e below m Φ T' (mkF m q Ls st)) : EndsP p e below m Φ T (mkF m pc Ls (.int x :: .int j :: .ref a :: st)) := by
  obtain ⟨cl, A, r1, r2, r3, r4⟩ := F
  obtain ⟨T', h', X', e', W', stp⟩ := stC X hx hZ eT A (j := j) (x := x) (inb_of r2 ⟨h1, h2⟩) (g := mkF m pc Ls (.int x :: .int j :: .ref a :: st)) rfl rfl hd
  subst hq
  exact step stp (kk T' h' X' e' W' (Ary.set A r1 r2 r3 r4 h1 h2 W'))
theorem bastoreB (X : Stand p l e R s m args below meth c T locs cells slots) (hx : p.tables.exec = Jvm.exec) (hZ : Z.Warmed39 s.vm) (eT : T.heap = h) (F : Ary Z h a k .byte n f) {x : Int32} (h1 : ¬ j < 0) (h2 : j < n) (hd : decode c.code pc = .ok (.bastore, 1)) (hq : pc + 1 = q)
    (kk : ∀ (T' : State) (h' : Heap), Stand p l e R s m args below meth c T' (locs ++ [⟨a, j.toNatClampNeg⟩]) cells slots → T'.heap = h' → Wr h h' a j.toNatClampNeg (.int (nar .byte x)) → Ary Z h' a k .byte n (fun i => if i = j then .int (nar .byte x) else f i) → EndsP p e below m Φ T' (mkF m q Ls st)) : EndsP p e below m Φ T (mkF m pc Ls (.int x :: .int j :: .ref a :: st)) := by
  obtain ⟨cl, A, r1, r2, r3, r4⟩ := F
  obtain ⟨T', h', X', e', W', stp⟩ := stB X hx hZ eT A (j := j) (x := x) (inb_of r2 ⟨h1, h2⟩) (g := mkF m pc Ls (.int x :: .int j :: .ref a :: st)) rfl rfl hd
  subst hq
  exact step stp (kk T' h' X' e' W' (Ary.set A r1 r2 r3 r4 h1 h2 W'))
theorem bastoreZ (X : Stand p l e R s m args below meth c T locs cells slots) (hx : p.tables.exec = Jvm.exec) (hZ : Z.Warmed39 s.vm) (eT : T.heap = h) (F : Ary Z h a k .boolean n f) {x : Int32} (h1 : ¬ j < 0) (h2 : j < n) (hd : decode c.code pc = .ok (.bastore, 1)) (hq : pc + 1 = q)
    (kk : ∀ (T' : State) (h' : Heap), Stand p l e R s m args below meth c T' (locs ++ [⟨a, j.toNatClampNeg⟩]) cells slots → T'.heap = h' → Wr h h' a j.toNatClampNeg (.int (nar .boolean x)) → Ary Z h' a k .boolean n (fun i => if i = j then .int (nar .boolean x) else f i) → EndsP p e below m Φ T' (mkF m q Ls st)) : EndsP p e below m Φ T (mkF m pc Ls (.int x :: .int j :: .ref a :: st)) := by
  obtain ⟨cl, A, r1, r2, r3, r4⟩ := F
  obtain ⟨T', h', X', e', W', stp⟩ := stZ X hx hZ eT A (j := j) (x := x) (inb_of r2 ⟨h1, h2⟩) (g := mkF m pc Ls (.int x :: .int j :: .ref a :: st)) rfl rfl hd
  subst hq
  exact step stp (kk T' h' X' e' W' (Ary.set A r1 r2 r3 r4 h1 h2 W'))
theorem aastore (X : Stand p l e R s m args below meth c T locs cells slots) (hx : p.tables.exec = Jvm.exec) (hZ : Z.Warmed39 s.vm) (eT : T.heap = h) {K : String} (F : Ary Z h a k (.object K) n f) (O : Ovr Z k K) {b : Addr} (I : Ins Z h b K true) (h1 : ¬ j < 0) (h2 : j < n) (hd : decode c.code pc = .ok (.aastore, 1)) (hq : pc + 1 = q)
    (kk : ∀ (T' : State) (h' : Heap), Stand p l e R s m args below meth c T' (locs ++ [⟨a, j.toNatClampNeg⟩]) cells slots → T'.heap = h' → Wr h h' a j.toNatClampNeg (.ref b) → Ary Z h' a k (.object K) n (fun i => if i = j then .ref b else f i) → EndsP p e below m Φ T' (mkF m q Ls st)) : EndsP p e below m Φ T (mkF m pc Ls (.ref b :: .int j :: .ref a :: st)) := by
  obtain ⟨cl, A, r1, r2, r3, r4⟩ := F
  subst r1
  obtain ⟨T', h', X', e', W', stp⟩ := stR X hx hZ eT A (j := j) (v := .ref b) (inb_of r2 ⟨h1, h2⟩) rfl (Sto.of A O I) (g := mkF m pc Ls (.ref b :: .int j :: .ref a :: st)) rfl rfl hd
  subst hq
  exact step stp (kk T' h' X' e' W' (Ary.set A rfl r2 r3 r4 h1 h2 W'))
theorem newarr (X : Stand p l e R s m args below meth c T locs cells slots) (hx : p.tables.exec = Jvm.exec) (hZ : Z.Warmed39 s.vm) {a0 : Array Value} (eT : T.heap = h) {aty : ArrayType} (w : (Jvm.Cond.arrayClass (newarray.typeOf aty)).before a0 Z = true) (hn : ¬ n < 0) {cap : Nat} (hcap : n.toNatClampNeg ≤ cap) (hb : cap * 8 ≤ 536870912) (hc : cells + 1 ≤ R.cells) (hl : slots + cap ≤ R.slots) (hd : decode c.code pc = .ok (.newarray aty, 2)) (hq : pc + 2 = q)
    (kk : ∀ (T' : State) (h' : Heap) (b : Addr) (k : ClassId), Stand p l e R s m args below meth c T' locs (cells + 1) (slots + cap) → T'.heap = h' → Ext h h' → b = h.size → Ary Z h' b k (newarray.typeOf aty) n (fun _ => defaultValue (newarray.typeOf aty)) → EndsP p e below m Φ T' (mkF m q Ls (.ref b :: st))) : EndsP p e below m Φ T (mkF m pc Ls (.int n :: st)) := by
  obtain ⟨T', h', k', X', e', E', A', stp⟩ := newP X hx hZ w eT (g := mkF m pc Ls (.int n :: st)) rfl hd rfl hn (cap := cap) hcap hb hc hl
  subst hq
  exact step stp (kk T' h' h.size k' X' e' E' rfl (Ary.new A' hn))
theorem newref (X : Stand p l e R s m args below meth c T locs cells slots) (hx : p.tables.exec = Jvm.exec) (hZ : Z.Warmed39 s.vm) {a0 : Array Value} {own K : String} {index : Nat} (hown : s.vm.findClass own = some m.cls) (eT : T.heap = h) (w1 : (Jvm.Cond.classLink own index K).before a0 Z = true) (w2 : (Jvm.Cond.arrayOver (.object K)).before a0 Z = true) (hn : ¬ n < 0) {cap : Nat} (hcap : n.toNatClampNeg ≤ cap) (hb : cap * 8 ≤ 536870912) (hc : cells + 1 ≤ R.cells) (hl : slots + cap ≤ R.slots) (hd : decode c.code pc = .ok (.anewarray index, 3)) (hq : pc + 3 = q)
    (kk : ∀ (T' : State) (h' : Heap) (b : Addr) (k : ClassId), Stand p l e R s m args below meth c T' locs (cells + 1) (slots + cap) → T'.heap = h' → Ext h h' → b = h.size → Ovr Z k K → Ary Z h' b k (.object K) n (fun _ => .null) → EndsP p e below m Φ T' (mkF m q Ls (.ref b :: st))) : EndsP p e below m Φ T (mkF m pc Ls (.int n :: st)) := by
  obtain ⟨T', h', k', X', e', E', A', O', stp⟩ := newR X hx hZ hown w1 w2 eT (g := mkF m pc Ls (.int n :: st)) rfl hd rfl hn (cap := cap) hcap hb hc hl
  subst hq
  exact step stp (kk T' h' h.size k' X' e' E' rfl O' (Ary.new A' hn))
theorem Ary.ofArv {vs : List Value} {d : Value} {ty : FieldType} (F : Arv Z h a k ty n vs d) (q : ∀ i : Nat, i < n.toNatClampNeg → vs.getD i d = f (Int32.ofNat i)) : Ary Z h a k ty n f := by
  obtain ⟨cl, A, rfl, r2, r3, H, -⟩ := F
  exact Ary.start A r2 r3 fun i hi => (H i (by omega)).trans (congrArg some (q i hi))
theorem Ary.ne_ty {b : Addr} {k' : ClassId} {ty ty' : FieldType} {n' : Int32} {g : Int32 → Value} (F : Ary Z h a k ty n f) (G : Ary Z h b k' ty' n' g) (q : ty ≠ ty') : a ≠ b := by
  rintro rfl
  obtain ⟨c1, A1, -⟩ := F
  obtain ⟨c2, A2, -⟩ := G
  cases A1.1.symm.trans A2.1
  obtain ⟨-, k1, e1, m1, e2⟩ := A1.2.1
  obtain ⟨-, k2, e3, m2, e4⟩ := A2.2.1
  cases e1.symm.trans e3
  rw [e2] at e4
  injection e4 with _ e5
  exact q e5
theorem Exa.ne_ary {b : Addr} {K : String} {ni : Nat} {a0 : Array Value} {ty : FieldType} (E : Exa Z h b K) (w : (Jvm.Cond.instantiable K ni).before a0 Z = true) (F : Ary Z h a k ty n f) : b ≠ a := by
  rintro rfl
  obtain ⟨c1, A1, -⟩ := F
  obtain ⟨c2, k2, e1, e2, e3, -⟩ := E
  cases A1.1.symm.trans e1
  obtain ⟨cI, kI, i1, i2, i3, -⟩ := Cond.instantiable_spec w
  cases e2.symm.trans i1
  cases e3.symm.trans i2
  obtain ⟨-, k1, e4, m1, e5⟩ := A1.2.1
  cases e3.symm.trans e4
  rw [i3] at e5; cases e5
end
end Jvm.EKit
namespace Jvm.Pilot.@@N@@
open Jvm Jvm.ClassFile Sem Op Lib Jvm.Free Jvm.Stand Jvm.LawKit Jvm.RoadKit Bundle Jvm.Pilot.@@N@@.Jvm.D Jvm.EKit
theorem own_eqI {args : Array Value} {first s : State} {o : Option Outcome} {idx : List Nat} {t : Jvm.Term} {k : Int32} (h : (Jvm.Cond.eq t (.int k)).value args first o s idx = some true) : t.eval args first o idx s = some (.int k) := by
  simp only [Cond.value, Term.int_eval] at h
  cases ht : t.eval args first o idx s with
  | none => simp [ht] at h
  | some v => cases v <;> simp [ht] at h; rw [h]
def own_tN (j : Int32) : Int32 := if j = 0 then 78 else if j = 1 then 111 else if j = 2 then 110 else if j = 3 then 101 else 0
theorem own_at_own_tN : ∀ i : Nat, i < (4 : Int32).toNatClampNeg → ([.int (78 : Int32), .int (111 : Int32), .int (110 : Int32), .int (101 : Int32)] : List Value).getD i (.int 0) = .int (own_tN (Int32.ofNat i)) := by
  intro i hi
  match i, hi with
  | 0, _ => rfl
  | 1, _ => rfl
  | 2, _ => rfl
  | 3, _ => rfl
  | i + 4, hi => exact absurd hi (by simp [show (4 : Int32).toNatClampNeg = 4 from rfl])
def own_tS (j : Int32) : Int32 := if j = 0 then 83 else if j = 1 then 105 else if j = 2 then 103 else if j = 3 then 110 else 0
theorem own_at_own_tS : ∀ i : Nat, i < (4 : Int32).toNatClampNeg → ([.int (83 : Int32), .int (105 : Int32), .int (103 : Int32), .int (110 : Int32)] : List Value).getD i (.int 0) = .int (own_tS (Int32.ofNat i)) := by
  intro i hi
  match i, hi with
  | 0, _ => rfl
  | 1, _ => rfl
  | 2, _ => rfl
  | 3, _ => rfl
  | i + 4, hi => exact absurd hi (by simp [show (4 : Int32).toNatClampNeg = 4 from rfl])
def own_tE (j : Int32) : Int32 := if j = 0 then 83 else if j = 1 then 105 else if j = 2 then 103 else if j = 3 then 110 else if j = 4 then 65 else if j = 5 then 110 else if j = 6 then 100 else if j = 7 then 69 else if j = 8 then 110 else if j = 9 then 99 else if j = 10 then 114 else if j = 11 then 121 else if j = 12 then 112 else if j = 13 then 116 else 0
theorem own_at_own_tE : ∀ i : Nat, i < (14 : Int32).toNatClampNeg → ([.int (83 : Int32), .int (105 : Int32), .int (103 : Int32), .int (110 : Int32), .int (65 : Int32), .int (110 : Int32), .int (100 : Int32), .int (69 : Int32), .int (110 : Int32), .int (99 : Int32), .int (114 : Int32), .int (121 : Int32), .int (112 : Int32), .int (116 : Int32)] : List Value).getD i (.int 0) = .int (own_tE (Int32.ofNat i)) := by
  intro i hi
  match i, hi with
  | 0, _ => rfl
  | 1, _ => rfl
  | 2, _ => rfl
  | 3, _ => rfl
  | 4, _ => rfl
  | 5, _ => rfl
  | 6, _ => rfl
  | 7, _ => rfl
  | 8, _ => rfl
  | 9, _ => rfl
  | 10, _ => rfl
  | 11, _ => rfl
  | 12, _ => rfl
  | 13, _ => rfl
  | i + 14, hi => exact absurd hi (by simp [show (14 : Int32).toNatClampNeg = 14 from rfl])
theorem own_up (i n : Int32) (h0 : ¬ i < 0) (h1 : i < n) : ¬ (i + 1) < 0 ∧ (n.toInt - (i + 1).toInt).toNat < (n.toInt - i.toInt).toNat := by
  have a := rng32 i
  have b := rng32 n
  rw [Int32.lt_iff_toInt_lt] at h0 h1
  rw [show (0 : Int32).toInt = 0 from rfl] at h0
  have e : (i + 1).toInt = i.toInt + 1 := by
    rw [Int32.toInt_add, show (1 : Int32).toInt = 1 from rfl]
    exact Int.bmod_eq_of_le (by omega) (by omega)
  rw [Int32.lt_iff_toInt_lt, show (0 : Int32).toInt = 0 from rfl, e]
  omega
theorem ef_rm4 (m : MethodId) (x0 : Addr) (x1 : Addr) : entryFrame m #[(.ref x0), (.ref x1)] 3 = mkF m 0 #[.val (.ref x0), .val (.ref x1), .unset] [] := by first | (simp [entryFrame, mkF, argsToLocals, Value.category]; done) | rfl
theorem pn_java_lang_StringLatin1 : plainName "java/lang/StringLatin1" = true := by first | (simp [plainName, overriddenIn]; done) | decide +kernel
theorem d4_0 : decode jdk_43_method_13_code 0 = .ok (.aload_n 0, 1) := by decide +kernel
theorem d4_1 : decode jdk_43_method_13_code 1 = .ok (.arraylength, 1) := by decide +kernel
theorem d4_2 : decode jdk_43_method_13_code 2 = .ok (.aload_n 1, 1) := by decide +kernel
theorem d4_3 : decode jdk_43_method_13_code 3 = .ok (.arraylength, 1) := by decide +kernel
theorem d4_4 : decode jdk_43_method_13_code 4 = .ok (.if_icmp .ne 30, 3) := by decide +kernel
theorem d4_7 : decode jdk_43_method_13_code 7 = .ok (.iconst 0, 1) := by decide +kernel
theorem d4_8 : decode jdk_43_method_13_code 8 = .ok (.istore_n 2, 1) := by decide +kernel
theorem d4_9 : decode jdk_43_method_13_code 9 = .ok (.iload_n 2, 1) := by decide +kernel
theorem d4_10 : decode jdk_43_method_13_code 10 = .ok (.aload_n 0, 1) := by decide +kernel
theorem d4_11 : decode jdk_43_method_13_code 11 = .ok (.arraylength, 1) := by decide +kernel
theorem d4_12 : decode jdk_43_method_13_code 12 = .ok (.if_icmp .ge 20, 3) := by decide +kernel
theorem d4_15 : decode jdk_43_method_13_code 15 = .ok (.aload_n 0, 1) := by decide +kernel
theorem d4_16 : decode jdk_43_method_13_code 16 = .ok (.iload_n 2, 1) := by decide +kernel
theorem d4_17 : decode jdk_43_method_13_code 17 = .ok (.baload, 1) := by decide +kernel
theorem d4_18 : decode jdk_43_method_13_code 18 = .ok (.aload_n 1, 1) := by decide +kernel
theorem d4_19 : decode jdk_43_method_13_code 19 = .ok (.iload_n 2, 1) := by decide +kernel
theorem d4_20 : decode jdk_43_method_13_code 20 = .ok (.baload, 1) := by decide +kernel
theorem d4_21 : decode jdk_43_method_13_code 21 = .ok (.if_icmp .eq 5, 3) := by decide +kernel
theorem d4_26 : decode jdk_43_method_13_code 26 = .ok (.iinc 2 1, 3) := by decide +kernel
theorem d4_29 : decode jdk_43_method_13_code 29 = .ok (.goto (-20), 3) := by decide +kernel
theorem d4_32 : decode jdk_43_method_13_code 32 = .ok (.iconst 1, 1) := by decide +kernel
theorem d4_33 : decode jdk_43_method_13_code 33 = .ok (.ireturn, 1) := by decide +kernel
set_option maxRecDepth 65536 in
set_option maxHeartbeats 40000000 in
theorem rm4 (l : Launch) (Z : State) (a0 : Array Value) (hw : ∀ d ∈ tables_1, d.before a0 Z = true) (ws : List Jvm.Cond) (r0 : Addr) (r1 : Addr) (h0 : Heap) (nz : Int32) (F : Int32 → Int32) (k0 k1 : ClassId) (V_r0 : Ary Z h0 r0 k0 .byte nz (fun j => .int (F j))) (V_r1 : Ary Z h0 r1 k1 .byte nz (fun j => .int (F j))) :
    Pays l Z (⟨"java/lang/StringLatin1", "equals", "([B[B)Z"⟩ : MethodName) jdk_43_method_13_code 3 (some .boolean) ws ({ frames := 0, cells := 0, slots := 0, locals := 0 } : Room) #[(.ref r0), (.ref r1)] h0 (RetQ (some (.int (1 : Int32))) h0) := by
  refine EKit.pays (plainFor_of_name pn_java_lang_StringLatin1) (fun m => ef_rm4 m r0 r1) ?_
  intro p e s m below meth c s₁ hx hby hml hZ hown hnm hret X0 e0 hs0
  refine EKit.aloadN X0 hx rfl rfl (hb hby d4_0) (q := 1) rfl ?_
  refine EKit.alen X0 hx hZ e0 V_r0 (hb hby d4_1) (q := 2) rfl ?_
  refine EKit.aloadN X0 hx rfl rfl (hb hby d4_2) (q := 3) rfl ?_
  refine EKit.alen X0 hx hZ e0 V_r1 (hb hby d4_3) (q := 4) rfl ?_
  have h4 : nz = nz := rfl
  refine EKit.icmpNo X0 hx ((teq h4).2) (hb hby d4_4) (q := 7) rfl ?_
  refine EKit.iconst X0 hx (v := (0 : Int32)) rfl (hb hby d4_7) (q := 8) rfl ?_
  refine EKit.istoreN X0 hx (l' := #[.val (.ref r0), .val (.ref r1), .val (.int (0 : Int32))]) rfl (hb hby d4_8) (q := 9) rfl ?_
  have J9_1 : ∀ (nn1 : Nat) (TJ1 : State) (XJ1 : Stand p l e ({ frames := 0, cells := 0, slots := 0, locals := 0 } : Room) s m #[(.ref r0), (.ref r1)] below meth c TJ1 [] 0 0) (eJ1 : TJ1.heap = h0) (i : Int32) (hj9 : ¬ i < 0) (hn1 : (nz.toInt - i.toInt).toNat = nn1), EKit.Ends p l e ({ frames := 0, cells := 0, slots := 0, locals := 0 } : Room) s m #[(.ref r0), (.ref r1)] below meth c ({ frames := 0, cells := 0, slots := 0, locals := 0 } : Room).cells ({ frames := 0, cells := 0, slots := 0, locals := 0 } : Room).slots (RetQ (some (.int (1 : Int32))) h0) TJ1 (mkF m 9 #[.val (.ref r0), .val (.ref r1), .val (.int i)] []) := by
    intro nn1
    induction nn1 using Nat.strongRecOn with
    | _ nn1 ih9_1 =>
      intro TJ1 XJ1 eJ1 i hj9 hn1
      refine EKit.iloadN XJ1 hx rfl (hb hby d4_9) (q := 10) rfl ?_
      refine EKit.aloadN XJ1 hx rfl rfl (hb hby d4_10) (q := 11) rfl ?_
      refine EKit.alen XJ1 hx hZ eJ1 V_r0 (hb hby d4_11) (q := 12) rfl ?_
      by_cases h12 : i < nz
      · skip
        refine EKit.icmpNo XJ1 hx ((tlt h12).2.1) (hb hby d4_12) (q := 15) rfl ?_
        refine EKit.aloadN XJ1 hx rfl rfl (hb hby d4_15) (q := 16) rfl ?_
        refine EKit.iloadN XJ1 hx rfl (hb hby d4_16) (q := 17) rfl ?_
        refine EKit.baloadB XJ1 hx hZ eJ1 V_r0 hj9 h12 (v := (.int (F i))) rfl (hb hby d4_17) (q := 18) rfl ?_
        refine EKit.aloadN XJ1 hx rfl rfl (hb hby d4_18) (q := 19) rfl ?_
        refine EKit.iloadN XJ1 hx rfl (hb hby d4_19) (q := 20) rfl ?_
        refine EKit.baloadB XJ1 hx hZ eJ1 V_r1 hj9 h12 (v := (.int (F i))) rfl (hb hby d4_20) (q := 21) rfl ?_
        have h21 : (F i) = (F i) := rfl
        refine EKit.icmpYes XJ1 hx ((teq h21).1) (hb hby d4_21) (by decide) (q := 26) (by decide) ?_
        refine EKit.iinc XJ1 hx (k0 := 2) (cst := 1) rfl (v := (i + (1 : Int32))) rfl (l' := #[.val (.ref r0), .val (.ref r1), .val (.int (i + (1 : Int32)))]) rfl (hb hby d4_26) (q := 29) rfl ?_
        refine EKit.goto XJ1 hx (hb hby d4_29) (by decide) (q := 9) (by decide) ?_
        exact ih9_1 _ (hn1 ▸ (own_up i nz hj9 h12).2) TJ1 XJ1 eJ1 (i + (1 : Int32)) (own_up i nz hj9 h12).1 rfl
      · skip
        refine EKit.icmpYes XJ1 hx ((flt h12).2.1) (hb hby d4_12) (by decide) (q := 32) (by decide) ?_
        refine EKit.iconst XJ1 hx (v := (1 : Int32)) rfl (hb hby d4_32) (q := 33) rfl ?_
        exact EKit.retZ XJ1 hx hret (by simp) (hb hby d4_33) (⟨rfl, eJ1, rfl⟩) (by decide) (by decide)
  exact J9_1 _ s₁ X0 e0 (0 : Int32) (by decide) rfl
theorem ef_rm3 (m : MethodId) (x0 : Addr) (x1 : Addr) : entryFrame m #[(.ref x0), (.ref x1)] 3 = mkF m 0 #[.val (.ref x0), .val (.ref x1), .unset] [] := by first | (simp [entryFrame, mkF, argsToLocals, Value.category]; done) | rfl
theorem pn_java_lang_String : plainName "java/lang/String" = true := by first | (simp [plainName, overriddenIn]; done) | decide +kernel
theorem d3_0 : decode jdk_42_method_66_code 0 = .ok (.aload_n 0, 1) := by decide +kernel
theorem d3_1 : decode jdk_42_method_66_code 1 = .ok (.aload_n 1, 1) := by decide +kernel
theorem d3_2 : decode jdk_42_method_66_code 2 = .ok (.if_acmp .ne 5, 3) := by decide +kernel
theorem d3_5 : decode jdk_42_method_66_code 5 = .ok (.iconst 1, 1) := by decide +kernel
theorem d3_6 : decode jdk_42_method_66_code 6 = .ok (.ireturn, 1) := by decide +kernel
theorem d3_7 : decode jdk_42_method_66_code 7 = .ok (.aload_n 1, 1) := by decide +kernel
theorem d3_8 : decode jdk_42_method_66_code 8 = .ok (.instanceof 10, 3) := by decide +kernel
theorem d3_11 : decode jdk_42_method_66_code 11 = .ok (.ifCond .eq 43, 3) := by decide +kernel
theorem d3_14 : decode jdk_42_method_66_code 14 = .ok (.aload_n 1, 1) := by decide +kernel
theorem d3_15 : decode jdk_42_method_66_code 15 = .ok (.checkcast 10, 3) := by decide +kernel
theorem d3_18 : decode jdk_42_method_66_code 18 = .ok (.astore_n 2, 1) := by decide +kernel
theorem d3_19 : decode jdk_42_method_66_code 19 = .ok (.getstatic 38, 3) := by decide +kernel
theorem d3_22 : decode jdk_42_method_66_code 22 = .ok (.ifCond .eq 14, 3) := by decide +kernel
theorem d3_25 : decode jdk_42_method_66_code 25 = .ok (.aload_n 0, 1) := by decide +kernel
theorem d3_26 : decode jdk_42_method_66_code 26 = .ok (.getfield 15, 3) := by decide +kernel
theorem d3_29 : decode jdk_42_method_66_code 29 = .ok (.aload_n 2, 1) := by decide +kernel
theorem d3_30 : decode jdk_42_method_66_code 30 = .ok (.getfield 15, 3) := by decide +kernel
theorem d3_33 : decode jdk_42_method_66_code 33 = .ok (.if_icmp .ne 21, 3) := by decide +kernel
theorem d3_36 : decode jdk_42_method_66_code 36 = .ok (.aload_n 0, 1) := by decide +kernel
theorem d3_37 : decode jdk_42_method_66_code 37 = .ok (.getfield 9, 3) := by decide +kernel
theorem d3_40 : decode jdk_42_method_66_code 40 = .ok (.aload_n 2, 1) := by decide +kernel
theorem d3_41 : decode jdk_42_method_66_code 41 = .ok (.getfield 9, 3) := by decide +kernel
theorem d3_44 : decode jdk_42_method_66_code 44 = .ok (.invokestatic 541, 3) := by decide +kernel
theorem pd___B_B_Z : parseMethodDescriptor "([B[B)Z" = some ⟨[(.array .byte), (.array .byte)], some .boolean⟩ := by decide +kernel
theorem d3_47 : decode jdk_42_method_66_code 47 = .ok (.ifCond .eq 7, 3) := by decide +kernel
theorem d3_50 : decode jdk_42_method_66_code 50 = .ok (.iconst 1, 1) := by decide +kernel
theorem d3_51 : decode jdk_42_method_66_code 51 = .ok (.goto 4, 3) := by decide +kernel
theorem d3_55 : decode jdk_42_method_66_code 55 = .ok (.ireturn, 1) := by decide +kernel
set_option maxRecDepth 65536 in
set_option maxHeartbeats 40000000 in
theorem rm3 (l : Launch) (Z : State) (a0 : Array Value) (hw : ∀ d ∈ tables_1, d.before a0 Z = true) (ws : List Jvm.Cond) (r0 : Addr) (r1 : Addr) (h0 : Heap) (d0 d1 : Addr) (z_CS : Int32) (S_CS : Sta Z h0 "java/lang/String" "COMPACT_STRINGS" "Z" (.int z_CS)) (P_CS : ¬ z_CS = 0) (nz : Int32) (F : Int32 → Int32) (k0 k1 : ClassId) (E_r0 : Exa Z h0 r0 "java/lang/String") (C_r0 : Fld Z h0 r0 "java/lang/String" "coder" "B" (.int 0)) (B_r0 : Fld Z h0 r0 "java/lang/String" "value" "[B" (.ref d0)) (V_r0 : Ary Z h0 d0 k0 .byte nz (fun j => .int (F j))) (E_r1 : Exa Z h0 r1 "java/lang/String") (C_r1 : Fld Z h0 r1 "java/lang/String" "coder" "B" (.int 0)) (B_r1 : Fld Z h0 r1 "java/lang/String" "value" "[B" (.ref d1)) (V_r1 : Ary Z h0 d1 k1 .byte nz (fun j => .int (F j))) :
    Pays l Z (⟨"java/lang/String", "equals", "(Ljava/lang/Object;)Z"⟩ : MethodName) jdk_42_method_66_code 3 (some .boolean) ws ({ frames := 1, cells := 0, slots := 0, locals := 20 } : Room) #[(.ref r0), (.ref r1)] h0 (RetQ (some (.int (1 : Int32))) h0) := by
  refine EKit.pays (plainFor_of_name pn_java_lang_String) (fun m => ef_rm3 m r0 r1) ?_
  intro p e s m below meth c s₁ hx hby hml hZ hown hnm hret X0 e0 hs0
  refine EKit.aloadN X0 hx rfl rfl (hb hby d3_0) (q := 1) rfl ?_
  refine EKit.aloadN X0 hx rfl rfl (hb hby d3_1) (q := 2) rfl ?_
  by_cases h2 : r0 = r1
  · skip
    refine EKit.acmp X0 hx rfl rfl (same := true) (EKit.rr_t h2) (hb hby d3_2) (by decide) (q := 5) (by decide) ?_
    refine EKit.iconst X0 hx (v := (1 : Int32)) rfl (hb hby d3_5) (q := 6) rfl ?_
    exact EKit.retZ X0 hx hret (by simp) (hb hby d3_6) (⟨rfl, e0, rfl⟩) (by decide) (by decide)
  · skip
    refine EKit.acmp X0 hx rfl rfl (same := false) (EKit.rr_f h2) (hb hby d3_2) (by decide) (q := 7) (by decide) ?_
    refine EKit.aloadN X0 hx rfl rfl (hb hby d3_7) (q := 8) rfl ?_
    obtain ⟨T1, X1, e1, st1⟩ := instY X0 hx hZ hown (hw _ (List.mem_of_getElem? (i := 39) rfl)) e0 (Ins.self E_r1) (g := (mkF m 8 #[.val (.ref r0), .val (.ref r1), .unset] [(.ref r1)])) rfl rfl (hb hby d3_8)
    refine EKit.step st1 ?_
    show EKit.Ends p l e ({ frames := 1, cells := 0, slots := 0, locals := 20 } : Room) s m #[(.ref r0), (.ref r1)] below meth c ({ frames := 1, cells := 0, slots := 0, locals := 20 } : Room).cells ({ frames := 1, cells := 0, slots := 0, locals := 20 } : Room).slots (RetQ (some (.int (1 : Int32))) h0) T1 (mkF m 11 #[.val (.ref r0), .val (.ref r1), .unset] [(.int (1 : Int32))])
    have h11 : ¬ ((1 : Int32) = (0 : Int32)) := by decide
    refine EKit.ifNo X1 hx (EKit.c_t (feq h11).1) (hb hby d3_11) (q := 14) rfl ?_
    refine EKit.aloadN X1 hx rfl rfl (hb hby d3_14) (q := 15) rfl ?_
    obtain ⟨T2, X2, e2, st2⟩ := castY X1 hx hZ hown (hw _ (List.mem_of_getElem? (i := 39) rfl)) e1 (Ins.self E_r1) (g := (mkF m 15 #[.val (.ref r0), .val (.ref r1), .unset] [(.ref r1)])) rfl rfl (hb hby d3_15)
    refine EKit.step st2 ?_
    show EKit.Ends p l e ({ frames := 1, cells := 0, slots := 0, locals := 20 } : Room) s m #[(.ref r0), (.ref r1)] below meth c ({ frames := 1, cells := 0, slots := 0, locals := 20 } : Room).cells ({ frames := 1, cells := 0, slots := 0, locals := 20 } : Room).slots (RetQ (some (.int (1 : Int32))) h0) T2 (mkF m 18 #[.val (.ref r0), .val (.ref r1), .unset] [(.ref r1)])
    refine EKit.astoreN X2 hx rfl (l' := #[.val (.ref r0), .val (.ref r1), .val (.ref r1)]) rfl (hb hby d3_18) (q := 19) rfl ?_
    obtain ⟨T3, X3, e3, st3⟩ := getS X2 hx hZ (host := "") hown (hw _ (List.mem_of_getElem? (i := 40) rfl)) Via.refl e2 S_CS (g := (mkF m 19 #[.val (.ref r0), .val (.ref r1), .val (.ref r1)] [])) rfl (hb hby d3_19)
    refine EKit.step st3 ?_
    show EKit.Ends p l e ({ frames := 1, cells := 0, slots := 0, locals := 20 } : Room) s m #[(.ref r0), (.ref r1)] below meth c ({ frames := 1, cells := 0, slots := 0, locals := 20 } : Room).cells ({ frames := 1, cells := 0, slots := 0, locals := 20 } : Room).slots (RetQ (some (.int (1 : Int32))) h0) T3 (mkF m 22 #[.val (.ref r0), .val (.ref r1), .val (.ref r1)] [(.int z_CS)])
    have h22 : ¬ (z_CS = (0 : Int32)) := P_CS
    refine EKit.ifNo X3 hx (EKit.c_t (feq h22).1) (hb hby d3_22) (q := 25) rfl ?_
    refine EKit.aloadN X3 hx rfl rfl (hb hby d3_25) (q := 26) rfl ?_
    obtain ⟨T4, X4, e4, st4⟩ := getF X3 hx hZ hown (host := "") (Or.inl (hw _ (List.mem_of_getElem? (i := 41) rfl))) Via.refl e3 C_r0 (g := (mkF m 26 #[.val (.ref r0), .val (.ref r1), .val (.ref r1)] [(.ref r0)])) rfl rfl (hb hby d3_26)
    refine EKit.step st4 ?_
    show EKit.Ends p l e ({ frames := 1, cells := 0, slots := 0, locals := 20 } : Room) s m #[(.ref r0), (.ref r1)] below meth c ({ frames := 1, cells := 0, slots := 0, locals := 20 } : Room).cells ({ frames := 1, cells := 0, slots := 0, locals := 20 } : Room).slots (RetQ (some (.int (1 : Int32))) h0) T4 (mkF m 29 #[.val (.ref r0), .val (.ref r1), .val (.ref r1)] [(.int (0 : Int32))])
    refine EKit.aloadN X4 hx rfl rfl (hb hby d3_29) (q := 30) rfl ?_
    obtain ⟨T5, X5, e5, st5⟩ := getF X4 hx hZ hown (host := "") (Or.inl (hw _ (List.mem_of_getElem? (i := 41) rfl))) Via.refl e4 C_r1 (g := (mkF m 30 #[.val (.ref r0), .val (.ref r1), .val (.ref r1)] [(.ref r1), (.int (0 : Int32))])) rfl rfl (hb hby d3_30)
    refine EKit.step st5 ?_
    show EKit.Ends p l e ({ frames := 1, cells := 0, slots := 0, locals := 20 } : Room) s m #[(.ref r0), (.ref r1)] below meth c ({ frames := 1, cells := 0, slots := 0, locals := 20 } : Room).cells ({ frames := 1, cells := 0, slots := 0, locals := 20 } : Room).slots (RetQ (some (.int (1 : Int32))) h0) T5 (mkF m 33 #[.val (.ref r0), .val (.ref r1), .val (.ref r1)] [(.int (0 : Int32)), (.int (0 : Int32))])
    have h33 : (0 : Int32) = (0 : Int32) := by decide
    refine EKit.icmpNo X5 hx ((teq h33).2) (hb hby d3_33) (q := 36) rfl ?_
    refine EKit.aloadN X5 hx rfl rfl (hb hby d3_36) (q := 37) rfl ?_
    obtain ⟨T6, X6, e6, st6⟩ := getF X5 hx hZ hown (host := "") (Or.inl (hw _ (List.mem_of_getElem? (i := 42) rfl))) Via.refl e5 B_r0 (g := (mkF m 37 #[.val (.ref r0), .val (.ref r1), .val (.ref r1)] [(.ref r0)])) rfl rfl (hb hby d3_37)
    refine EKit.step st6 ?_
    show EKit.Ends p l e ({ frames := 1, cells := 0, slots := 0, locals := 20 } : Room) s m #[(.ref r0), (.ref r1)] below meth c ({ frames := 1, cells := 0, slots := 0, locals := 20 } : Room).cells ({ frames := 1, cells := 0, slots := 0, locals := 20 } : Room).slots (RetQ (some (.int (1 : Int32))) h0) T6 (mkF m 40 #[.val (.ref r0), .val (.ref r1), .val (.ref r1)] [(.ref d0)])
    refine EKit.aloadN X6 hx rfl rfl (hb hby d3_40) (q := 41) rfl ?_
    obtain ⟨T7, X7, e7, st7⟩ := getF X6 hx hZ hown (host := "") (Or.inl (hw _ (List.mem_of_getElem? (i := 42) rfl))) Via.refl e6 B_r1 (g := (mkF m 41 #[.val (.ref r0), .val (.ref r1), .val (.ref r1)] [(.ref r1), (.ref d0)])) rfl rfl (hb hby d3_41)
    refine EKit.step st7 ?_
    show EKit.Ends p l e ({ frames := 1, cells := 0, slots := 0, locals := 20 } : Room) s m #[(.ref r0), (.ref r1)] below meth c ({ frames := 1, cells := 0, slots := 0, locals := 20 } : Room).cells ({ frames := 1, cells := 0, slots := 0, locals := 20 } : Room).slots (RetQ (some (.int (1 : Int32))) h0) T7 (mkF m 44 #[.val (.ref r0), .val (.ref r1), .val (.ref r1)] [(.ref d1), (.ref d0)])
    refine EKit.callS X7 hx hZ hown e7 (y := (⟨"java/lang/StringLatin1", "equals", "([B[B)Z"⟩ : MethodName)) (hw _ (List.mem_of_getElem? (i := 43) rfl)) (hw _ (List.mem_of_getElem? (i := 44) rfl)) (hw _ (List.mem_of_getElem? (i := 45) rfl)) (hw _ (List.mem_of_getElem? (i := 46) rfl)) (by decide) (argsL := [(.ref d0), (.ref d1)]) (rm4 l Z a0 hw [] d0 d1 h0 nz F k0 k1 V_r0 V_r1) (rest := []) (by rw [hml]; rfl) pd___B_B_Z rfl (W := 0) (Nat.le_of_eq rfl) (by decide) (by decide) (by decide) (by decide) rfl (hb hby d3_44) (q := 47) rfl ?_
    intro T8 v8 L8 X8 hQ8
    obtain ⟨X8, e8, ev8⟩ := EKit.pureK X8 hQ8
    subst ev8
    show EKit.Ends p l e ({ frames := 1, cells := 0, slots := 0, locals := 20 } : Room) s m #[(.ref r0), (.ref r1)] below meth c ({ frames := 1, cells := 0, slots := 0, locals := 20 } : Room).cells ({ frames := 1, cells := 0, slots := 0, locals := 20 } : Room).slots (RetQ (some (.int (1 : Int32))) h0) T8 (mkF m 47 #[.val (.ref r0), .val (.ref r1), .val (.ref r1)] [(.int (1 : Int32))])
    have h47 : ¬ ((1 : Int32) = (0 : Int32)) := by decide
    refine EKit.ifNo X8 hx (EKit.c_t (feq h47).1) (hb hby d3_47) (q := 50) rfl ?_
    refine EKit.iconst X8 hx (v := (1 : Int32)) rfl (hb hby d3_50) (q := 51) rfl ?_
    refine EKit.goto X8 hx (hb hby d3_51) (by decide) (q := 55) (by decide) ?_
    exact EKit.retZ X8 hx hret (by simp) (hb hby d3_55) (⟨rfl, e8, rfl⟩) (by decide) (by decide)
theorem ef_rm1_00 (m : MethodId) (x0 : Int32) (x1 : Int32) : entryFrame m #[(.int x0), (.int x1)] 3 = mkF m 0 #[.val (.int x0), .val (.int x1), .unset] [] := by first | (simp [entryFrame, mkF, argsToLocals, Value.category]; done) | rfl
theorem pn_com_example_pubframe_pubframe_message_SecurityMode : plainName "com/example/pubframe/pubframe/message/SecurityMode" = true := by first | (simp [plainName, overriddenIn]; done) | decide +kernel
theorem d1_0 : decode prog_35_method_4_code 0 = .ok (.iload_n 1, 1) := by decide +kernel
theorem d1_1 : decode prog_35_method_4_code 1 = .ok (.ifCond .eq 10, 3) := by decide +kernel
theorem d1_11 : decode prog_35_method_4_code 11 = .ok (.iload_n 0, 1) := by decide +kernel
theorem d1_12 : decode prog_35_method_4_code 12 = .ok (.ifCond .eq 10, 3) := by decide +kernel
theorem d1_22 : decode prog_35_method_4_code 22 = .ok (.getstatic 3, 3) := by decide +kernel
theorem d1_25 : decode prog_35_method_4_code 25 = .ok (.astore_n 2, 1) := by decide +kernel
theorem d1_26 : decode prog_35_method_4_code 26 = .ok (.aload_n 2, 1) := by decide +kernel
theorem d1_27 : decode prog_35_method_4_code 27 = .ok (.areturn, 1) := by decide +kernel
set_option maxRecDepth 65536 in
set_option maxHeartbeats 40000000 in
theorem rm1_00 (l : Launch) (Z : State) (a0 : Array Value) (hw : ∀ d ∈ tables_1, d.before a0 Z = true) (ws : List Jvm.Cond)  (h0 : Heap)  (w_NONE : Addr) (w_SIGN : Addr) (w_SIGN_AND_ENCRYPT : Addr) (S_NONE : Sta Z h0 "com/example/pubframe/pubframe/message/SecurityMode" "NONE" "Lcom/example/pubframe/pubframe/message/SecurityMode;" (.ref w_NONE)) (S_SIGN : Sta Z h0 "com/example/pubframe/pubframe/message/SecurityMode" "SIGN" "Lcom/example/pubframe/pubframe/message/SecurityMode;" (.ref w_SIGN)) (S_SIGN_AND_ENCRYPT : Sta Z h0 "com/example/pubframe/pubframe/message/SecurityMode" "SIGN_AND_ENCRYPT" "Lcom/example/pubframe/pubframe/message/SecurityMode;" (.ref w_SIGN_AND_ENCRYPT)) :
    Pays l Z (⟨"com/example/pubframe/pubframe/message/SecurityMode", "of", "(ZZ)Lcom/example/pubframe/pubframe/message/SecurityMode;"⟩ : MethodName) prog_35_method_4_code 3 (some (.object "com/example/pubframe/pubframe/message/SecurityMode")) ws ({ frames := 0, cells := 0, slots := 0, locals := 0 } : Room) #[(.int (0 : Int32)), (.int (0 : Int32))] h0 (RetQ (some (.ref w_NONE)) h0) := by
  refine EKit.pays (plainFor_of_name pn_com_example_pubframe_pubframe_message_SecurityMode) (fun m => ef_rm1_00 m (0 : Int32) (0 : Int32)) ?_
  intro p e s m below meth c s₁ hx hby hml hZ hown hnm hret X0 e0 hs0
  refine EKit.iloadN X0 hx rfl (hb hby d1_0) (q := 1) rfl ?_
  have h1 : (0 : Int32) = (0 : Int32) := by decide
  refine EKit.ifYes X0 hx (EKit.c_t (teq h1).1) (hb hby d1_1) (by decide) (q := 11) (by decide) ?_
  refine EKit.iloadN X0 hx rfl (hb hby d1_11) (q := 12) rfl ?_
  have h12 : (0 : Int32) = (0 : Int32) := by decide
  refine EKit.ifYes X0 hx (EKit.c_t (teq h12).1) (hb hby d1_12) (by decide) (q := 22) (by decide) ?_
  obtain ⟨T1, X1, e1, st1⟩ := getS X0 hx hZ (host := "") hown (hw _ (List.mem_of_getElem? (i := 51) rfl)) Via.refl e0 S_NONE (g := (mkF m 22 #[.val (.int (0 : Int32)), .val (.int (0 : Int32)), .unset] [])) rfl (hb hby d1_22)
  refine EKit.step st1 ?_
  show EKit.Ends p l e ({ frames := 0, cells := 0, slots := 0, locals := 0 } : Room) s m #[(.int (0 : Int32)), (.int (0 : Int32))] below meth c ({ frames := 0, cells := 0, slots := 0, locals := 0 } : Room).cells ({ frames := 0, cells := 0, slots := 0, locals := 0 } : Room).slots (RetQ (some (.ref w_NONE)) h0) T1 (mkF m 25 #[.val (.int (0 : Int32)), .val (.int (0 : Int32)), .unset] [(.ref w_NONE)])
  refine EKit.astoreN X1 hx rfl (l' := #[.val (.int (0 : Int32)), .val (.int (0 : Int32)), .val (.ref w_NONE)]) rfl (hb hby d1_25) (q := 26) rfl ?_
  refine EKit.aloadN X1 hx rfl rfl (hb hby d1_26) (q := 27) rfl ?_
  exact EKit.retA X1 hx hret rfl rfl rfl (hb hby d1_27) (⟨rfl, e1, rfl⟩) (by decide) (by decide)
theorem ef_rm1_10 (m : MethodId) (x0 : Int32) (x1 : Int32) : entryFrame m #[(.int x0), (.int x1)] 3 = mkF m 0 #[.val (.int x0), .val (.int x1), .unset] [] := by first | (simp [entryFrame, mkF, argsToLocals, Value.category]; done) | rfl
theorem d1_15 : decode prog_35_method_4_code 15 = .ok (.getstatic 7, 3) := by decide +kernel
theorem d1_18 : decode prog_35_method_4_code 18 = .ok (.astore_n 2, 1) := by decide +kernel
theorem d1_19 : decode prog_35_method_4_code 19 = .ok (.goto 7, 3) := by decide +kernel
set_option maxRecDepth 65536 in
set_option maxHeartbeats 40000000 in
theorem rm1_10 (l : Launch) (Z : State) (a0 : Array Value) (hw : ∀ d ∈ tables_1, d.before a0 Z = true) (ws : List Jvm.Cond)  (h0 : Heap)  (w_NONE : Addr) (w_SIGN : Addr) (w_SIGN_AND_ENCRYPT : Addr) (S_NONE : Sta Z h0 "com/example/pubframe/pubframe/message/SecurityMode" "NONE" "Lcom/example/pubframe/pubframe/message/SecurityMode;" (.ref w_NONE)) (S_SIGN : Sta Z h0 "com/example/pubframe/pubframe/message/SecurityMode" "SIGN" "Lcom/example/pubframe/pubframe/message/SecurityMode;" (.ref w_SIGN)) (S_SIGN_AND_ENCRYPT : Sta Z h0 "com/example/pubframe/pubframe/message/SecurityMode" "SIGN_AND_ENCRYPT" "Lcom/example/pubframe/pubframe/message/SecurityMode;" (.ref w_SIGN_AND_ENCRYPT)) :
    Pays l Z (⟨"com/example/pubframe/pubframe/message/SecurityMode", "of", "(ZZ)Lcom/example/pubframe/pubframe/message/SecurityMode;"⟩ : MethodName) prog_35_method_4_code 3 (some (.object "com/example/pubframe/pubframe/message/SecurityMode")) ws ({ frames := 0, cells := 0, slots := 0, locals := 0 } : Room) #[(.int (1 : Int32)), (.int (0 : Int32))] h0 (RetQ (some (.ref w_SIGN)) h0) := by
  refine EKit.pays (plainFor_of_name pn_com_example_pubframe_pubframe_message_SecurityMode) (fun m => ef_rm1_10 m (1 : Int32) (0 : Int32)) ?_
  intro p e s m below meth c s₁ hx hby hml hZ hown hnm hret X0 e0 hs0
  refine EKit.iloadN X0 hx rfl (hb hby d1_0) (q := 1) rfl ?_
  have h1 : (0 : Int32) = (0 : Int32) := by decide
  refine EKit.ifYes X0 hx (EKit.c_t (teq h1).1) (hb hby d1_1) (by decide) (q := 11) (by decide) ?_
  refine EKit.iloadN X0 hx rfl (hb hby d1_11) (q := 12) rfl ?_
  have h12 : ¬ ((1 : Int32) = (0 : Int32)) := by decide
  refine EKit.ifNo X0 hx (EKit.c_t (feq h12).1) (hb hby d1_12) (q := 15) rfl ?_
  obtain ⟨T1, X1, e1, st1⟩ := getS X0 hx hZ (host := "") hown (hw _ (List.mem_of_getElem? (i := 52) rfl)) Via.refl e0 S_SIGN (g := (mkF m 15 #[.val (.int (1 : Int32)), .val (.int (0 : Int32)), .unset] [])) rfl (hb hby d1_15)
  refine EKit.step st1 ?_
  show EKit.Ends p l e ({ frames := 0, cells := 0, slots := 0, locals := 0 } : Room) s m #[(.int (1 : Int32)), (.int (0 : Int32))] below meth c ({ frames := 0, cells := 0, slots := 0, locals := 0 } : Room).cells ({ frames := 0, cells := 0, slots := 0, locals := 0 } : Room).slots (RetQ (some (.ref w_SIGN)) h0) T1 (mkF m 18 #[.val (.int (1 : Int32)), .val (.int (0 : Int32)), .unset] [(.ref w_SIGN)])
  refine EKit.astoreN X1 hx rfl (l' := #[.val (.int (1 : Int32)), .val (.int (0 : Int32)), .val (.ref w_SIGN)]) rfl (hb hby d1_18) (q := 19) rfl ?_
  refine EKit.goto X1 hx (hb hby d1_19) (by decide) (q := 26) (by decide) ?_
  refine EKit.aloadN X1 hx rfl rfl (hb hby d1_26) (q := 27) rfl ?_
  exact EKit.retA X1 hx hret rfl rfl rfl (hb hby d1_27) (⟨rfl, e1, rfl⟩) (by decide) (by decide)
theorem ef_rm1_01 (m : MethodId) (x0 : Int32) (x1 : Int32) : entryFrame m #[(.int x0), (.int x1)] 3 = mkF m 0 #[.val (.int x0), .val (.int x1), .unset] [] := by first | (simp [entryFrame, mkF, argsToLocals, Value.category]; done) | rfl
theorem d1_4 : decode prog_35_method_4_code 4 = .ok (.getstatic 10, 3) := by decide +kernel
theorem d1_7 : decode prog_35_method_4_code 7 = .ok (.astore_n 2, 1) := by decide +kernel
theorem d1_8 : decode prog_35_method_4_code 8 = .ok (.goto 18, 3) := by decide +kernel
set_option maxRecDepth 65536 in
set_option maxHeartbeats 40000000 in
theorem rm1_01 (l : Launch) (Z : State) (a0 : Array Value) (hw : ∀ d ∈ tables_1, d.before a0 Z = true) (ws : List Jvm.Cond)  (h0 : Heap)  (w_NONE : Addr) (w_SIGN : Addr) (w_SIGN_AND_ENCRYPT : Addr) (S_NONE : Sta Z h0 "com/example/pubframe/pubframe/message/SecurityMode" "NONE" "Lcom/example/pubframe/pubframe/message/SecurityMode;" (.ref w_NONE)) (S_SIGN : Sta Z h0 "com/example/pubframe/pubframe/message/SecurityMode" "SIGN" "Lcom/example/pubframe/pubframe/message/SecurityMode;" (.ref w_SIGN)) (S_SIGN_AND_ENCRYPT : Sta Z h0 "com/example/pubframe/pubframe/message/SecurityMode" "SIGN_AND_ENCRYPT" "Lcom/example/pubframe/pubframe/message/SecurityMode;" (.ref w_SIGN_AND_ENCRYPT)) :
    Pays l Z (⟨"com/example/pubframe/pubframe/message/SecurityMode", "of", "(ZZ)Lcom/example/pubframe/pubframe/message/SecurityMode;"⟩ : MethodName) prog_35_method_4_code 3 (some (.object "com/example/pubframe/pubframe/message/SecurityMode")) ws ({ frames := 0, cells := 0, slots := 0, locals := 0 } : Room) #[(.int (0 : Int32)), (.int (1 : Int32))] h0 (RetQ (some (.ref w_SIGN_AND_ENCRYPT)) h0) := by
  refine EKit.pays (plainFor_of_name pn_com_example_pubframe_pubframe_message_SecurityMode) (fun m => ef_rm1_01 m (0 : Int32) (1 : Int32)) ?_
  intro p e s m below meth c s₁ hx hby hml hZ hown hnm hret X0 e0 hs0
  refine EKit.iloadN X0 hx rfl (hb hby d1_0) (q := 1) rfl ?_
  have h1 : ¬ ((1 : Int32) = (0 : Int32)) := by decide
  refine EKit.ifNo X0 hx (EKit.c_t (feq h1).1) (hb hby d1_1) (q := 4) rfl ?_
  obtain ⟨T1, X1, e1, st1⟩ := getS X0 hx hZ (host := "") hown (hw _ (List.mem_of_getElem? (i := 26) rfl)) Via.refl e0 S_SIGN_AND_ENCRYPT (g := (mkF m 4 #[.val (.int (0 : Int32)), .val (.int (1 : Int32)), .unset] [])) rfl (hb hby d1_4)
  refine EKit.step st1 ?_
  show EKit.Ends p l e ({ frames := 0, cells := 0, slots := 0, locals := 0 } : Room) s m #[(.int (0 : Int32)), (.int (1 : Int32))] below meth c ({ frames := 0, cells := 0, slots := 0, locals := 0 } : Room).cells ({ frames := 0, cells := 0, slots := 0, locals := 0 } : Room).slots (RetQ (some (.ref w_SIGN_AND_ENCRYPT)) h0) T1 (mkF m 7 #[.val (.int (0 : Int32)), .val (.int (1 : Int32)), .unset] [(.ref w_SIGN_AND_ENCRYPT)])
  refine EKit.astoreN X1 hx rfl (l' := #[.val (.int (0 : Int32)), .val (.int (1 : Int32)), .val (.ref w_SIGN_AND_ENCRYPT)]) rfl (hb hby d1_7) (q := 8) rfl ?_
  refine EKit.goto X1 hx (hb hby d1_8) (by decide) (q := 26) (by decide) ?_
  refine EKit.aloadN X1 hx rfl rfl (hb hby d1_26) (q := 27) rfl ?_
  exact EKit.retA X1 hx hret rfl rfl rfl (hb hby d1_27) (⟨rfl, e1, rfl⟩) (by decide) (by decide)
theorem ef_rm1_11 (m : MethodId) (x0 : Int32) (x1 : Int32) : entryFrame m #[(.int x0), (.int x1)] 3 = mkF m 0 #[.val (.int x0), .val (.int x1), .unset] [] := by first | (simp [entryFrame, mkF, argsToLocals, Value.category]; done) | rfl
set_option maxRecDepth 65536 in
set_option maxHeartbeats 40000000 in
theorem rm1_11 (l : Launch) (Z : State) (a0 : Array Value) (hw : ∀ d ∈ tables_1, d.before a0 Z = true) (ws : List Jvm.Cond)  (h0 : Heap)  (w_NONE : Addr) (w_SIGN : Addr) (w_SIGN_AND_ENCRYPT : Addr) (S_NONE : Sta Z h0 "com/example/pubframe/pubframe/message/SecurityMode" "NONE" "Lcom/example/pubframe/pubframe/message/SecurityMode;" (.ref w_NONE)) (S_SIGN : Sta Z h0 "com/example/pubframe/pubframe/message/SecurityMode" "SIGN" "Lcom/example/pubframe/pubframe/message/SecurityMode;" (.ref w_SIGN)) (S_SIGN_AND_ENCRYPT : Sta Z h0 "com/example/pubframe/pubframe/message/SecurityMode" "SIGN_AND_ENCRYPT" "Lcom/example/pubframe/pubframe/message/SecurityMode;" (.ref w_SIGN_AND_ENCRYPT)) :
    Pays l Z (⟨"com/example/pubframe/pubframe/message/SecurityMode", "of", "(ZZ)Lcom/example/pubframe/pubframe/message/SecurityMode;"⟩ : MethodName) prog_35_method_4_code 3 (some (.object "com/example/pubframe/pubframe/message/SecurityMode")) ws ({ frames := 0, cells := 0, slots := 0, locals := 0 } : Room) #[(.int (1 : Int32)), (.int (1 : Int32))] h0 (RetQ (some (.ref w_SIGN_AND_ENCRYPT)) h0) := by
  refine EKit.pays (plainFor_of_name pn_com_example_pubframe_pubframe_message_SecurityMode) (fun m => ef_rm1_11 m (1 : Int32) (1 : Int32)) ?_
  intro p e s m below meth c s₁ hx hby hml hZ hown hnm hret X0 e0 hs0
  refine EKit.iloadN X0 hx rfl (hb hby d1_0) (q := 1) rfl ?_
  have h1 : ¬ ((1 : Int32) = (0 : Int32)) := by decide
  refine EKit.ifNo X0 hx (EKit.c_t (feq h1).1) (hb hby d1_1) (q := 4) rfl ?_
  obtain ⟨T1, X1, e1, st1⟩ := getS X0 hx hZ (host := "") hown (hw _ (List.mem_of_getElem? (i := 26) rfl)) Via.refl e0 S_SIGN_AND_ENCRYPT (g := (mkF m 4 #[.val (.int (1 : Int32)), .val (.int (1 : Int32)), .unset] [])) rfl (hb hby d1_4)
  refine EKit.step st1 ?_
  show EKit.Ends p l e ({ frames := 0, cells := 0, slots := 0, locals := 0 } : Room) s m #[(.int (1 : Int32)), (.int (1 : Int32))] below meth c ({ frames := 0, cells := 0, slots := 0, locals := 0 } : Room).cells ({ frames := 0, cells := 0, slots := 0, locals := 0 } : Room).slots (RetQ (some (.ref w_SIGN_AND_ENCRYPT)) h0) T1 (mkF m 7 #[.val (.int (1 : Int32)), .val (.int (1 : Int32)), .unset] [(.ref w_SIGN_AND_ENCRYPT)])
  refine EKit.astoreN X1 hx rfl (l' := #[.val (.int (1 : Int32)), .val (.int (1 : Int32)), .val (.ref w_SIGN_AND_ENCRYPT)]) rfl (hb hby d1_7) (q := 8) rfl ?_
  refine EKit.goto X1 hx (hb hby d1_8) (by decide) (q := 26) (by decide) ?_
  refine EKit.aloadN X1 hx rfl rfl (hb hby d1_26) (q := 27) rfl ?_
  exact EKit.retA X1 hx hret rfl rfl rfl (hb hby d1_27) (⟨rfl, e1, rfl⟩) (by decide) (by decide)
theorem ef_rm2 (m : MethodId) (x0 : Addr) : entryFrame m #[(.ref x0)] 1 = mkF m 0 #[.val (.ref x0)] [] := by first | (simp [entryFrame, mkF, argsToLocals, Value.category]; done) | rfl
theorem d2_0 : decode prog_35_method_5_code 0 = .ok (.aload_n 0, 1) := by decide +kernel
theorem d2_1 : decode prog_35_method_5_code 1 = .ok (.getfield 32, 3) := by decide +kernel
theorem d2_4 : decode prog_35_method_5_code 4 = .ok (.areturn, 1) := by decide +kernel
set_option maxRecDepth 65536 in
set_option maxHeartbeats 40000000 in
theorem rm2 (l : Launch) (Z : State) (a0 : Array Value) (hw : ∀ d ∈ tables_1, d.before a0 Z = true) (ws : List Jvm.Cond) (r0 : Addr) (h0 : Heap) (v0 : Addr) (F_n : Fld Z h0 r0 "com/example/pubframe/pubframe/message/SecurityMode" "specName" "Ljava/lang/String;" (.ref v0)) :
    Pays l Z (⟨"com/example/pubframe/pubframe/message/SecurityMode", "specName", "()Ljava/lang/String;"⟩ : MethodName) prog_35_method_5_code 1 (some (.object "java/lang/String")) ws ({ frames := 0, cells := 0, slots := 0, locals := 0 } : Room) #[(.ref r0)] h0 (RetQ (some (.ref v0)) h0) := by
  refine EKit.pays (plainFor_of_name pn_com_example_pubframe_pubframe_message_SecurityMode) (fun m => ef_rm2 m r0) ?_
  intro p e s m below meth c s₁ hx hby hml hZ hown hnm hret X0 e0 hs0
  refine EKit.aloadN X0 hx rfl rfl (hb hby d2_0) (q := 1) rfl ?_
  obtain ⟨T1, X1, e1, st1⟩ := getF X0 hx hZ hown (host := "") (Or.inl (hw _ (List.mem_of_getElem? (i := 32) rfl))) Via.refl e0 F_n (g := (mkF m 1 #[.val (.ref r0)] [(.ref r0)])) rfl rfl (hb hby d2_1)
  refine EKit.step st1 ?_
  show EKit.Ends p l e ({ frames := 0, cells := 0, slots := 0, locals := 0 } : Room) s m #[(.ref r0)] below meth c ({ frames := 0, cells := 0, slots := 0, locals := 0 } : Room).cells ({ frames := 0, cells := 0, slots := 0, locals := 0 } : Room).slots (RetQ (some (.ref v0)) h0) T1 (mkF m 4 #[.val (.ref r0)] [(.ref v0)])
  exact EKit.retA X1 hx hret rfl rfl rfl (hb hby d2_4) (⟨rfl, e1, rfl⟩) (by decide) (by decide)
theorem ef_rm5_NONE (m : MethodId) (x0 : Addr) : entryFrame m #[(.ref x0)] 1 = mkF m 0 #[.val (.ref x0)] [] := by first | (simp [entryFrame, mkF, argsToLocals, Value.category]; done) | rfl
theorem pn_com_example_pubframe_pubframe_message_SecurityModeOfPinLaw : plainName "com/example/pubframe/pubframe/message/SecurityModeOfPinLaw" = true := by first | (simp [plainName, overriddenIn]; done) | decide +kernel
theorem d5_0 : decode method_2_code 0 = .ok (.aload_n 0, 1) := by decide +kernel
theorem d5_1 : decode method_2_code 1 = .ok (.getstatic 7, 3) := by decide +kernel
theorem d5_4 : decode method_2_code 4 = .ok (.if_acmp .ne 5, 3) := by decide +kernel
theorem d5_7 : decode method_2_code 7 = .ok (.iconst 0, 1) := by decide +kernel
theorem d5_8 : decode method_2_code 8 = .ok (.ireturn, 1) := by decide +kernel
set_option maxRecDepth 65536 in
set_option maxHeartbeats 40000000 in
theorem rm5_NONE (l : Launch) (Z : State) (a0 : Array Value) (hw : ∀ d ∈ tables_1, d.before a0 Z = true) (ws : List Jvm.Cond) (w_NONE : Addr) (h0 : Heap)  (w_SIGN : Addr) (w_SIGN_AND_ENCRYPT : Addr) (S_NONE : Sta Z h0 "com/example/pubframe/pubframe/message/SecurityMode" "NONE" "Lcom/example/pubframe/pubframe/message/SecurityMode;" (.ref w_NONE)) (S_SIGN : Sta Z h0 "com/example/pubframe/pubframe/message/SecurityMode" "SIGN" "Lcom/example/pubframe/pubframe/message/SecurityMode;" (.ref w_SIGN)) (S_SIGN_AND_ENCRYPT : Sta Z h0 "com/example/pubframe/pubframe/message/SecurityMode" "SIGN_AND_ENCRYPT" "Lcom/example/pubframe/pubframe/message/SecurityMode;" (.ref w_SIGN_AND_ENCRYPT)) (ne_SN : ¬ w_SIGN = w_NONE) (ne_EN : ¬ w_SIGN_AND_ENCRYPT = w_NONE) (ne_ES : ¬ w_SIGN_AND_ENCRYPT = w_SIGN) :
    Pays l Z (⟨"com/example/pubframe/pubframe/message/SecurityModeOfPinLaw", "rank", "(Lcom/example/pubframe/pubframe/message/SecurityMode;)I"⟩ : MethodName) method_2_code 1 (some .int) ws ({ frames := 0, cells := 0, slots := 0, locals := 0 } : Room) #[(.ref w_NONE)] h0 (RetQ (some (.int (0 : Int32))) h0) := by
  refine EKit.pays (plainFor_of_name pn_com_example_pubframe_pubframe_message_SecurityModeOfPinLaw) (fun m => ef_rm5_NONE m w_NONE) ?_
  intro p e s m below meth c s₁ hx hby hml hZ hown hnm hret X0 e0 hs0
  refine EKit.aloadN X0 hx rfl rfl (hb hby d5_0) (q := 1) rfl ?_
  obtain ⟨T1, X1, e1, st1⟩ := getS X0 hx hZ (host := "") hown (hw _ (List.mem_of_getElem? (i := 15) rfl)) Via.refl e0 S_NONE (g := (mkF m 1 #[.val (.ref w_NONE)] [(.ref w_NONE)])) rfl (hb hby d5_1)
  refine EKit.step st1 ?_
  show EKit.Ends p l e ({ frames := 0, cells := 0, slots := 0, locals := 0 } : Room) s m #[(.ref w_NONE)] below meth c ({ frames := 0, cells := 0, slots := 0, locals := 0 } : Room).cells ({ frames := 0, cells := 0, slots := 0, locals := 0 } : Room).slots (RetQ (some (.int (0 : Int32))) h0) T1 (mkF m 4 #[.val (.ref w_NONE)] [(.ref w_NONE), (.ref w_NONE)])
  have h4 : w_NONE = w_NONE := rfl
  refine EKit.acmp X1 hx rfl rfl (same := true) (EKit.rr_t h4) (hb hby d5_4) (by decide) (q := 7) (by decide) ?_
  refine EKit.iconst X1 hx (v := (0 : Int32)) rfl (hb hby d5_7) (q := 8) rfl ?_
  exact EKit.retI X1 hx hret (hb hby d5_8) (⟨rfl, e1, rfl⟩) (by decide) (by decide)
theorem ef_rm5_SIGN (m : MethodId) (x0 : Addr) : entryFrame m #[(.ref x0)] 1 = mkF m 0 #[.val (.ref x0)] [] := by first | (simp [entryFrame, mkF, argsToLocals, Value.category]; done) | rfl
theorem d5_9 : decode method_2_code 9 = .ok (.aload_n 0, 1) := by decide +kernel
theorem d5_10 : decode method_2_code 10 = .ok (.getstatic 13, 3) := by decide +kernel
theorem d5_13 : decode method_2_code 13 = .ok (.if_acmp .ne 5, 3) := by decide +kernel
theorem d5_16 : decode method_2_code 16 = .ok (.iconst 1, 1) := by decide +kernel
theorem d5_17 : decode method_2_code 17 = .ok (.ireturn, 1) := by decide +kernel
set_option maxRecDepth 65536 in
set_option maxHeartbeats 40000000 in
theorem rm5_SIGN (l : Launch) (Z : State) (a0 : Array Value) (hw : ∀ d ∈ tables_1, d.before a0 Z = true) (ws : List Jvm.Cond) (w_SIGN : Addr) (h0 : Heap)  (w_NONE : Addr) (w_SIGN_AND_ENCRYPT : Addr) (S_NONE : Sta Z h0 "com/example/pubframe/pubframe/message/SecurityMode" "NONE" "Lcom/example/pubframe/pubframe/message/SecurityMode;" (.ref w_NONE)) (S_SIGN : Sta Z h0 "com/example/pubframe/pubframe/message/SecurityMode" "SIGN" "Lcom/example/pubframe/pubframe/message/SecurityMode;" (.ref w_SIGN)) (S_SIGN_AND_ENCRYPT : Sta Z h0 "com/example/pubframe/pubframe/message/SecurityMode" "SIGN_AND_ENCRYPT" "Lcom/example/pubframe/pubframe/message/SecurityMode;" (.ref w_SIGN_AND_ENCRYPT)) (ne_SN : ¬ w_SIGN = w_NONE) (ne_EN : ¬ w_SIGN_AND_ENCRYPT = w_NONE) (ne_ES : ¬ w_SIGN_AND_ENCRYPT = w_SIGN) :
    Pays l Z (⟨"com/example/pubframe/pubframe/message/SecurityModeOfPinLaw", "rank", "(Lcom/example/pubframe/pubframe/message/SecurityMode;)I"⟩ : MethodName) method_2_code 1 (some .int) ws ({ frames := 0, cells := 0, slots := 0, locals := 0 } : Room) #[(.ref w_SIGN)] h0 (RetQ (some (.int (1 : Int32))) h0) := by
  refine EKit.pays (plainFor_of_name pn_com_example_pubframe_pubframe_message_SecurityModeOfPinLaw) (fun m => ef_rm5_SIGN m w_SIGN) ?_
  intro p e s m below meth c s₁ hx hby hml hZ hown hnm hret X0 e0 hs0
  refine EKit.aloadN X0 hx rfl rfl (hb hby d5_0) (q := 1) rfl ?_
  obtain ⟨T1, X1, e1, st1⟩ := getS X0 hx hZ (host := "") hown (hw _ (List.mem_of_getElem? (i := 15) rfl)) Via.refl e0 S_NONE (g := (mkF m 1 #[.val (.ref w_SIGN)] [(.ref w_SIGN)])) rfl (hb hby d5_1)
  refine EKit.step st1 ?_
  show EKit.Ends p l e ({ frames := 0, cells := 0, slots := 0, locals := 0 } : Room) s m #[(.ref w_SIGN)] below meth c ({ frames := 0, cells := 0, slots := 0, locals := 0 } : Room).cells ({ frames := 0, cells := 0, slots := 0, locals := 0 } : Room).slots (RetQ (some (.int (1 : Int32))) h0) T1 (mkF m 4 #[.val (.ref w_SIGN)] [(.ref w_NONE), (.ref w_SIGN)])
  have h4 : ¬ (w_SIGN = w_NONE) := ne_SN
  refine EKit.acmp X1 hx rfl rfl (same := false) (EKit.rr_f h4) (hb hby d5_4) (by decide) (q := 9) (by decide) ?_
  refine EKit.aloadN X1 hx rfl rfl (hb hby d5_9) (q := 10) rfl ?_
  obtain ⟨T2, X2, e2, st2⟩ := getS X1 hx hZ (host := "") hown (hw _ (List.mem_of_getElem? (i := 19) rfl)) Via.refl e1 S_SIGN (g := (mkF m 10 #[.val (.ref w_SIGN)] [(.ref w_SIGN)])) rfl (hb hby d5_10)
  refine EKit.step st2 ?_
  show EKit.Ends p l e ({ frames := 0, cells := 0, slots := 0, locals := 0 } : Room) s m #[(.ref w_SIGN)] below meth c ({ frames := 0, cells := 0, slots := 0, locals := 0 } : Room).cells ({ frames := 0, cells := 0, slots := 0, locals := 0 } : Room).slots (RetQ (some (.int (1 : Int32))) h0) T2 (mkF m 13 #[.val (.ref w_SIGN)] [(.ref w_SIGN), (.ref w_SIGN)])
  have h13 : w_SIGN = w_SIGN := rfl
  refine EKit.acmp X2 hx rfl rfl (same := true) (EKit.rr_t h13) (hb hby d5_13) (by decide) (q := 16) (by decide) ?_
  refine EKit.iconst X2 hx (v := (1 : Int32)) rfl (hb hby d5_16) (q := 17) rfl ?_
  exact EKit.retI X2 hx hret (hb hby d5_17) (⟨rfl, e2, rfl⟩) (by decide) (by decide)
theorem ef_rm5_SIGN_AND_ENCRYPT (m : MethodId) (x0 : Addr) : entryFrame m #[(.ref x0)] 1 = mkF m 0 #[.val (.ref x0)] [] := by first | (simp [entryFrame, mkF, argsToLocals, Value.category]; done) | rfl
theorem d5_18 : decode method_2_code 18 = .ok (.aload_n 0, 1) := by decide +kernel
theorem d5_19 : decode method_2_code 19 = .ok (.getstatic 16, 3) := by decide +kernel
theorem d5_22 : decode method_2_code 22 = .ok (.if_acmp .ne 5, 3) := by decide +kernel
theorem d5_25 : decode method_2_code 25 = .ok (.iconst 2, 1) := by decide +kernel
theorem d5_26 : decode method_2_code 26 = .ok (.ireturn, 1) := by decide +kernel
set_option maxRecDepth 65536 in
set_option maxHeartbeats 40000000 in
theorem rm5_SIGN_AND_ENCRYPT (l : Launch) (Z : State) (a0 : Array Value) (hw : ∀ d ∈ tables_1, d.before a0 Z = true) (ws : List Jvm.Cond) (w_SIGN_AND_ENCRYPT : Addr) (h0 : Heap)  (w_NONE : Addr) (w_SIGN : Addr) (S_NONE : Sta Z h0 "com/example/pubframe/pubframe/message/SecurityMode" "NONE" "Lcom/example/pubframe/pubframe/message/SecurityMode;" (.ref w_NONE)) (S_SIGN : Sta Z h0 "com/example/pubframe/pubframe/message/SecurityMode" "SIGN" "Lcom/example/pubframe/pubframe/message/SecurityMode;" (.ref w_SIGN)) (S_SIGN_AND_ENCRYPT : Sta Z h0 "com/example/pubframe/pubframe/message/SecurityMode" "SIGN_AND_ENCRYPT" "Lcom/example/pubframe/pubframe/message/SecurityMode;" (.ref w_SIGN_AND_ENCRYPT)) (ne_SN : ¬ w_SIGN = w_NONE) (ne_EN : ¬ w_SIGN_AND_ENCRYPT = w_NONE) (ne_ES : ¬ w_SIGN_AND_ENCRYPT = w_SIGN) :
    Pays l Z (⟨"com/example/pubframe/pubframe/message/SecurityModeOfPinLaw", "rank", "(Lcom/example/pubframe/pubframe/message/SecurityMode;)I"⟩ : MethodName) method_2_code 1 (some .int) ws ({ frames := 0, cells := 0, slots := 0, locals := 0 } : Room) #[(.ref w_SIGN_AND_ENCRYPT)] h0 (RetQ (some (.int (2 : Int32))) h0) := by
  refine EKit.pays (plainFor_of_name pn_com_example_pubframe_pubframe_message_SecurityModeOfPinLaw) (fun m => ef_rm5_SIGN_AND_ENCRYPT m w_SIGN_AND_ENCRYPT) ?_
  intro p e s m below meth c s₁ hx hby hml hZ hown hnm hret X0 e0 hs0
  refine EKit.aloadN X0 hx rfl rfl (hb hby d5_0) (q := 1) rfl ?_
  obtain ⟨T1, X1, e1, st1⟩ := getS X0 hx hZ (host := "") hown (hw _ (List.mem_of_getElem? (i := 15) rfl)) Via.refl e0 S_NONE (g := (mkF m 1 #[.val (.ref w_SIGN_AND_ENCRYPT)] [(.ref w_SIGN_AND_ENCRYPT)])) rfl (hb hby d5_1)
  refine EKit.step st1 ?_
  show EKit.Ends p l e ({ frames := 0, cells := 0, slots := 0, locals := 0 } : Room) s m #[(.ref w_SIGN_AND_ENCRYPT)] below meth c ({ frames := 0, cells := 0, slots := 0, locals := 0 } : Room).cells ({ frames := 0, cells := 0, slots := 0, locals := 0 } : Room).slots (RetQ (some (.int (2 : Int32))) h0) T1 (mkF m 4 #[.val (.ref w_SIGN_AND_ENCRYPT)] [(.ref w_NONE), (.ref w_SIGN_AND_ENCRYPT)])
  have h4 : ¬ (w_SIGN_AND_ENCRYPT = w_NONE) := ne_EN
  refine EKit.acmp X1 hx rfl rfl (same := false) (EKit.rr_f h4) (hb hby d5_4) (by decide) (q := 9) (by decide) ?_
  refine EKit.aloadN X1 hx rfl rfl (hb hby d5_9) (q := 10) rfl ?_
  obtain ⟨T2, X2, e2, st2⟩ := getS X1 hx hZ (host := "") hown (hw _ (List.mem_of_getElem? (i := 19) rfl)) Via.refl e1 S_SIGN (g := (mkF m 10 #[.val (.ref w_SIGN_AND_ENCRYPT)] [(.ref w_SIGN_AND_ENCRYPT)])) rfl (hb hby d5_10)
  refine EKit.step st2 ?_
  show EKit.Ends p l e ({ frames := 0, cells := 0, slots := 0, locals := 0 } : Room) s m #[(.ref w_SIGN_AND_ENCRYPT)] below meth c ({ frames := 0, cells := 0, slots := 0, locals := 0 } : Room).cells ({ frames := 0, cells := 0, slots := 0, locals := 0 } : Room).slots (RetQ (some (.int (2 : Int32))) h0) T2 (mkF m 13 #[.val (.ref w_SIGN_AND_ENCRYPT)] [(.ref w_SIGN), (.ref w_SIGN_AND_ENCRYPT)])
  have h13 : ¬ (w_SIGN_AND_ENCRYPT = w_SIGN) := ne_ES
  refine EKit.acmp X2 hx rfl rfl (same := false) (EKit.rr_f h13) (hb hby d5_13) (by decide) (q := 18) (by decide) ?_
  refine EKit.aloadN X2 hx rfl rfl (hb hby d5_18) (q := 19) rfl ?_
  obtain ⟨T3, X3, e3, st3⟩ := getS X2 hx hZ (host := "") hown (hw _ (List.mem_of_getElem? (i := 21) rfl)) Via.refl e2 S_SIGN_AND_ENCRYPT (g := (mkF m 19 #[.val (.ref w_SIGN_AND_ENCRYPT)] [(.ref w_SIGN_AND_ENCRYPT)])) rfl (hb hby d5_19)
  refine EKit.step st3 ?_
  show EKit.Ends p l e ({ frames := 0, cells := 0, slots := 0, locals := 0 } : Room) s m #[(.ref w_SIGN_AND_ENCRYPT)] below meth c ({ frames := 0, cells := 0, slots := 0, locals := 0 } : Room).cells ({ frames := 0, cells := 0, slots := 0, locals := 0 } : Room).slots (RetQ (some (.int (2 : Int32))) h0) T3 (mkF m 22 #[.val (.ref w_SIGN_AND_ENCRYPT)] [(.ref w_SIGN_AND_ENCRYPT), (.ref w_SIGN_AND_ENCRYPT)])
  have h22 : w_SIGN_AND_ENCRYPT = w_SIGN_AND_ENCRYPT := rfl
  refine EKit.acmp X3 hx rfl rfl (same := true) (EKit.rr_t h22) (hb hby d5_22) (by decide) (q := 25) (by decide) ?_
  refine EKit.iconst X3 hx (v := (2 : Int32)) rfl (hb hby d5_25) (q := 26) rfl ?_
  exact EKit.retI X3 hx hret (hb hby d5_26) (⟨rfl, e3, rfl⟩) (by decide) (by decide)
theorem ef_rm0 (m : MethodId) (x0 : Int32) (x1 : Int32) : entryFrame m #[(.int x0), (.int x1)] maxLocals = mkF m 0 #[.val (.int x0), .val (.int x1), .unset, .unset, .unset, .unset, .unset, .unset, .unset, .unset] [] := by first | (simp [entryFrame, mkF, argsToLocals, Value.category, maxLocals]; done) | rfl
theorem pd__ZZ_Lcom_example_pubframe_pubframe_message_SecurityMode_ : parseMethodDescriptor "(ZZ)Lcom/example/pubframe/pubframe/message/SecurityMode;" = some ⟨[.boolean, .boolean], some (.object "com/example/pubframe/pubframe/message/SecurityMode")⟩ := by decide +kernel
theorem pd___Ljava_lang_String_ : parseMethodDescriptor "()Ljava/lang/String;" = some ⟨[], some (.object "java/lang/String")⟩ := by decide +kernel
theorem pd__Ljava_lang_Object__Z : parseMethodDescriptor "(Ljava/lang/Object;)Z" = some ⟨[(.object "java/lang/Object")], some .boolean⟩ := by decide +kernel
theorem pd__Lcom_example_pubframe_pubframe_message_SecurityMode__I : parseMethodDescriptor "(Lcom/example/pubframe/pubframe/message/SecurityMode;)I" = some ⟨[(.object "com/example/pubframe/pubframe/message/SecurityMode")], some .int⟩ := by decide +kernel
set_option maxRecDepth 65536 in
set_option maxHeartbeats 40000000 in
theorem rm0 (l : Launch) (Z : State) (a0 : Array Value) (hw : ∀ d ∈ tables_1, d.before a0 Z = true) (ws : List Jvm.Cond) (p0 : Int32) (p1 : Int32) (h0 : Heap)  (w_NONE : Addr) (w_SIGN : Addr) (w_SIGN_AND_ENCRYPT : Addr) (S_NONE : Sta Z h0 "com/example/pubframe/pubframe/message/SecurityMode" "NONE" "Lcom/example/pubframe/pubframe/message/SecurityMode;" (.ref w_NONE)) (S_SIGN : Sta Z h0 "com/example/pubframe/pubframe/message/SecurityMode" "SIGN" "Lcom/example/pubframe/pubframe/message/SecurityMode;" (.ref w_SIGN)) (S_SIGN_AND_ENCRYPT : Sta Z h0 "com/example/pubframe/pubframe/message/SecurityMode" "SIGN_AND_ENCRYPT" "Lcom/example/pubframe/pubframe/message/SecurityMode;" (.ref w_SIGN_AND_ENCRYPT)) (E_NONE : Exa Z h0 w_NONE "com/example/pubframe/pubframe/message/SecurityMode") (E_SIGN : Exa Z h0 w_SIGN "com/example/pubframe/pubframe/message/SecurityMode") (E_SIGN_AND_ENCRYPT : Exa Z h0 w_SIGN_AND_ENCRYPT "com/example/pubframe/pubframe/message/SecurityMode") (ne_SN : ¬ w_SIGN = w_NONE) (ne_EN : ¬ w_SIGN_AND_ENCRYPT = w_NONE) (ne_ES : ¬ w_SIGN_AND_ENCRYPT = w_SIGN) (z_CS : Int32) (S_CS : Sta Z h0 "java/lang/String" "COMPACT_STRINGS" "Z" (.int z_CS)) (P_CS : ¬ z_CS = 0) (hcw : Jvm.Lit.compactW.before a0 Z = true) (sp_NONE dd_NONE : Addr) (kk_NONE : ClassId) (hh_NONE : Jvm.Lit.constHeld Z "com/example/pubframe/pubframe/message/SecurityModeOfPinLaw" 21) (N_NONE : Fld Z h0 w_NONE "com/example/pubframe/pubframe/message/SecurityMode" "specName" "Ljava/lang/String;" (.ref sp_NONE)) (E_sp_NONE : Exa Z h0 sp_NONE "java/lang/String") (C_sp_NONE : Fld Z h0 sp_NONE "java/lang/String" "coder" "B" (.int 0)) (B_sp_NONE : Fld Z h0 sp_NONE "java/lang/String" "value" "[B" (.ref dd_NONE)) (V_sp_NONE : Ary Z h0 dd_NONE kk_NONE .byte (4 : Int32) (fun j => .int (own_tN j))) (sp_SIGN dd_SIGN : Addr) (kk_SIGN : ClassId) (hh_SIGN : Jvm.Lit.constHeld Z "com/example/pubframe/pubframe/message/SecurityModeOfPinLaw" 23) (N_SIGN : Fld Z h0 w_SIGN "com/example/pubframe/pubframe/message/SecurityMode" "specName" "Ljava/lang/String;" (.ref sp_SIGN)) (E_sp_SIGN : Exa Z h0 sp_SIGN "java/lang/String") (C_sp_SIGN : Fld Z h0 sp_SIGN "java/lang/String" "coder" "B" (.int 0)) (B_sp_SIGN : Fld Z h0 sp_SIGN "java/lang/String" "value" "[B" (.ref dd_SIGN)) (V_sp_SIGN : Ary Z h0 dd_SIGN kk_SIGN .byte (4 : Int32) (fun j => .int (own_tS j))) (sp_SIGN_AND_ENCRYPT dd_SIGN_AND_ENCRYPT : Addr) (kk_SIGN_AND_ENCRYPT : ClassId) (hh_SIGN_AND_ENCRYPT : Jvm.Lit.constHeld Z "com/example/pubframe/pubframe/message/SecurityModeOfPinLaw" 25) (N_SIGN_AND_ENCRYPT : Fld Z h0 w_SIGN_AND_ENCRYPT "com/example/pubframe/pubframe/message/SecurityMode" "specName" "Ljava/lang/String;" (.ref sp_SIGN_AND_ENCRYPT)) (E_sp_SIGN_AND_ENCRYPT : Exa Z h0 sp_SIGN_AND_ENCRYPT "java/lang/String") (C_sp_SIGN_AND_ENCRYPT : Fld Z h0 sp_SIGN_AND_ENCRYPT "java/lang/String" "coder" "B" (.int 0)) (B_sp_SIGN_AND_ENCRYPT : Fld Z h0 sp_SIGN_AND_ENCRYPT "java/lang/String" "value" "[B" (.ref dd_SIGN_AND_ENCRYPT)) (V_sp_SIGN_AND_ENCRYPT : Ary Z h0 dd_SIGN_AND_ENCRYPT kk_SIGN_AND_ENCRYPT .byte (14 : Int32) (fun j => .int (own_tE j))) :
    PaysW l Z x code maxLocals ret ws room_1 #[(.int p0), (.int p1)] h0 (fun v h L => v = some (.int (1 : Int32)) ∧ Fr h0.size L) := by
  refine EKit.paysW (plainFor_of_name pn_com_example_pubframe_pubframe_message_SecurityModeOfPinLaw) (fun m => ef_rm0 m p0 p1) ?_
  intro p e s m below meth c s₁ hx hby hml hZ hown hnm hret X0 e0 hs0 hvm hhz
  have own_sa : ∀ a ∈ Bundle.stringAtoms, a.before a0 Z = true := fun d hd => hw d ((by decide +kernel : ∀ d ∈ Bundle.stringAtoms, d ∈ tables_1) d hd)
  have own_I : IB Z s.vm [] := by rw [hvm]; exact IB.start
  refine EKit.iloadN X0 hx rfl (hb hby at_0) (q := 1) rfl ?_
  refine EKit.iconst X0 hx (v := (1 : Int32)) rfl (hb hby at_1) (q := 2) rfl ?_
  refine EKit.iand X0 hx  (hb hby at_2) (q := 3) rfl ?_
  by_cases h3 : (p0 &&& (1 : Int32)) = (0 : Int32)
  · skip
    refine EKit.ifYes X0 hx (EKit.c_t (teq h3).1) (hb hby at_3) (by decide) (q := 10) (by decide) ?_
    refine EKit.iconst X0 hx (v := (0 : Int32)) rfl (hb hby at_10) (q := 11) rfl ?_
    refine EKit.istoreN X0 hx (l' := #[.val (.int p0), .val (.int p1), .val (.int (0 : Int32)), .unset, .unset, .unset, .unset, .unset, .unset, .unset]) rfl (hb hby at_11) (q := 12) rfl ?_
    refine EKit.iloadN X0 hx rfl (hb hby at_12) (q := 13) rfl ?_
    refine EKit.iconst X0 hx (v := (1 : Int32)) rfl (hb hby at_13) (q := 14) rfl ?_
    refine EKit.iand X0 hx  (hb hby at_14) (q := 15) rfl ?_
    by_cases h15 : (p1 &&& (1 : Int32)) = (0 : Int32)
    · skip
      refine EKit.ifYes X0 hx (EKit.c_t (teq h15).1) (hb hby at_15) (by decide) (q := 22) (by decide) ?_
      refine EKit.iconst X0 hx (v := (0 : Int32)) rfl (hb hby at_22) (q := 23) rfl ?_
      refine EKit.istoreN X0 hx (l' := #[.val (.int p0), .val (.int p1), .val (.int (0 : Int32)), .val (.int (0 : Int32)), .unset, .unset, .unset, .unset, .unset, .unset]) rfl (hb hby at_23) (q := 24) rfl ?_
      refine EKit.iconst X0 hx (v := (4 : Int32)) rfl (hb hby at_24) (q := 25) rfl ?_
      refine EKit.newref X0 hx hZ hown e0 (hw _ (List.mem_of_getElem? (i := 0) rfl)) (hw _ (List.mem_of_getElem? (i := 1) rfl)) (by decide) (cap := 4) (by decide) (by decide) (by decide) (by decide) (hb hby at_25) (q := 28) rfl ?_
      intro T1 h1 b1 k1 X1 e1 E1 g1 O1 V1
      have V1 : Ary Z h1 b1 k1 (.object "java/lang/String") (4 : Int32) (fun _ => .null) := V1
      have gn_b1 : h0.size ≤ b1 := Nat.le_trans (Nat.le_refl _) (Nat.le_of_eq g1.symm)
      have sz1 : h0.size ≤ h1.size := Nat.le_trans (Nat.le_refl _) E1.1
      have EX1 := E1
      show EKit.EndsW p l e room_1 s m #[(.int p0), (.int p1)] below meth c room_1.cells room_1.slots (fun v h L => v = some (.int (1 : Int32)) ∧ Fr h0.size L) T1 (mkF m 28 #[.val (.int p0), .val (.int p1), .val (.int (0 : Int32)), .val (.int (0 : Int32)), .unset, .unset, .unset, .unset, .unset, .unset] [(.ref b1)])
      refine EKit.dup X1 hx rfl (hb hby at_28) (q := 29) rfl ?_
      refine EKit.iconst X1 hx (v := (0 : Int32)) rfl (hb hby at_29) (q := 30) rfl ?_
      obtain ⟨b2, T2, h2, kq2, c2, kb2, X2, e2, E2, hS2, hk2, hZ, hown, A2, Fc2, Fv2, Vb2, lt2, ltc2, I2, Li2, st2⟩ := ldcSVL (s := s) (vm0 := s.vm) X1 hx hZ hown (hw _ (List.mem_of_getElem? (i := 2) rfl)) own_sa e1 (State.WarmedH.since (State.WarmedH.refl s) 0) (Nat.zero_le _) (Fr.nil _) (fun _ _ q => by rw [hhz]; exact q) own_I (by decide) hh_NONE hcw (vs := [.int (78 : Int32), .int (111 : Int32), .int (110 : Int32), .int (101 : Int32)]) (z := (4 : Int32)) ⟨by decide, by decide +kernel⟩ (by decide) rfl (g := (mkF m 30 #[.val (.int p0), .val (.int p1), .val (.int (0 : Int32)), .val (.int (0 : Int32)), .unset, .unset, .unset, .unset, .unset, .unset] [(.int (0 : Int32)), (.ref b1), (.ref b1)])) rfl (hb hby at_30) (n := 16) (by decide) (by decide) (by decide) (by decide)
      have hs0 : (s.setVm T2.vm).heap = h0 := hs0
      have sz2 : h0.size ≤ h2.size := Nat.le_trans sz1 E2.1
      have fV_b1_2 := V1.ext E2
      have V2 : Ary Z h2 c2 kb2 .byte (4 : Int32) (fun j => .int (own_tN j)) := EKit.Ary.ofArv Vb2 (own_at_own_tN)
      have ne_b2_b1 : b2 ≠ b1 := EKit.Exa.ne_ary A2 (hw _ (List.mem_of_getElem? (i := 4) rfl)) fV_b1_2
      have ne_c2_b1 : c2 ≠ b1 := EKit.Ary.ne_ty V2 fV_b1_2 (by decide)
      have zz2 : EKit.Sz kq2 h2 := hk2
      have EX2 := EKit.Ext_trans EX1 E2
      refine EKit.step st2 ?_
      show EKit.EndsW p l e room_1 s m #[(.int p0), (.int p1)] below meth c room_1.cells room_1.slots (fun v h L => v = some (.int (1 : Int32)) ∧ Fr h0.size L) T2 (mkF m 32 #[.val (.int p0), .val (.int p1), .val (.int (0 : Int32)), .val (.int (0 : Int32)), .unset, .unset, .unset, .unset, .unset, .unset] [(.ref b2), (.int (0 : Int32)), (.ref b1), (.ref b1)])
      refine EKit.aastore X2 hx hZ e2 fV_b1_2 O1 (Ins.self A2) (by decide) (by decide) (hb hby at_32) (q := 33) rfl ?_
      intro T3 h3 X3 e3 W3 V3
      have X3 := Stand.forget X3 (fun y hy => by cases List.mem_singleton.mp hy; rw [hs0]; exact gn_b1)
      have sz3 : h0.size ≤ h3.size := Nat.le_trans sz2 (Keep.of_wr W3).1
      have fE_b2_3 := A2.wr W3
      have fF_b2_coder_3 := Fc2.other W3 (Or.inl (ne_b2_b1))
      have fF_b2_value_3 := Fv2.other W3 (Or.inl (ne_b2_b1))
      have fV_c2_3 := V2.other W3 (ne_c2_b1)
      have fI_sz_3 := zz2.wr W3
      have EX3 := EKit.Ext_wr EX2 W3 gn_b1
      refine EKit.dup X3 hx rfl (hb hby at_33) (q := 34) rfl ?_
      refine EKit.iconst X3 hx (v := (1 : Int32)) rfl (hb hby at_34) (q := 35) rfl ?_
      obtain ⟨b4, T4, h4, kq4, c4, kb4, X4, e4, E4, hS4, hk4, hZ, hown, A4, Fc4, Fv4, Vb4, lt4, ltc4, I4, Li4, st4⟩ := ldcSVL (s := s) (vm0 := T2.vm) X3 hx hZ hown (hw _ (List.mem_of_getElem? (i := 11) rfl)) own_sa e3 hS2 fI_sz_3 (Fr.nil _) (fun _ _ q => by rw [hhz]; exact q) I2 (by decide) hh_SIGN hcw (vs := [.int (83 : Int32), .int (105 : Int32), .int (103 : Int32), .int (110 : Int32)]) (z := (4 : Int32)) ⟨by decide, by decide +kernel⟩ (by decide) rfl (g := (mkF m 35 #[.val (.int p0), .val (.int p1), .val (.int (0 : Int32)), .val (.int (0 : Int32)), .unset, .unset, .unset, .unset, .unset, .unset] [(.int (1 : Int32)), (.ref b1), (.ref b1)])) rfl (hb hby at_35) (n := 16) (by decide) (by decide) (by decide) (by decide)
      have hs0 : (s.setVm T4.vm).heap = h0 := hs0
      have sz4 : h0.size ≤ h4.size := Nat.le_trans sz3 E4.1
      have fV_b1_4 := V3.ext E4
      have fE_b2_4 := fE_b2_3.ext E4
      have fF_b2_coder_4 := fF_b2_coder_3.ext E4
      have fF_b2_value_4 := fF_b2_value_3.ext E4
      have fV_c2_4 := fV_c2_3.ext E4
      have fI_sz_4 := fI_sz_3.ext E4
      have V4 : Ary Z h4 c4 kb4 .byte (4 : Int32) (fun j => .int (own_tS j)) := EKit.Ary.ofArv Vb4 (own_at_own_tS)
      have ne_b4_b1 : b4 ≠ b1 := EKit.Exa.ne_ary A4 (hw _ (List.mem_of_getElem? (i := 4) rfl)) fV_b1_4
      have ne_c4_b1 : c4 ≠ b1 := EKit.Ary.ne_ty V4 fV_b1_4 (by decide)
      have zz4 : EKit.Sz kq4 h4 := hk4
      have EX4 := EKit.Ext_trans EX3 E4
      refine EKit.step st4 ?_
      show EKit.EndsW p l e room_1 s m #[(.int p0), (.int p1)] below meth c room_1.cells room_1.slots (fun v h L => v = some (.int (1 : Int32)) ∧ Fr h0.size L) T4 (mkF m 37 #[.val (.int p0), .val (.int p1), .val (.int (0 : Int32)), .val (.int (0 : Int32)), .unset, .unset, .unset, .unset, .unset, .unset] [(.ref b4), (.int (1 : Int32)), (.ref b1), (.ref b1)])
      refine EKit.aastore X4 hx hZ e4 fV_b1_4 O1 (Ins.self A4) (by decide) (by decide) (hb hby at_37) (q := 38) rfl ?_
      intro T5 h5 X5 e5 W5 V5
      have X5 := Stand.forget X5 (fun y hy => by cases List.mem_singleton.mp hy; rw [hs0]; exact gn_b1)
      have sz5 : h0.size ≤ h5.size := Nat.le_trans sz4 (Keep.of_wr W5).1
      have fE_b2_5 := fE_b2_4.wr W5
      have fF_b2_coder_5 := fF_b2_coder_4.other W5 (Or.inl (ne_b2_b1))
      have fF_b2_value_5 := fF_b2_value_4.other W5 (Or.inl (ne_b2_b1))
      have fV_c2_5 := fV_c2_4.other W5 (ne_c2_b1)
      have fE_b4_5 := A4.wr W5
      have fF_b4_coder_5 := Fc4.other W5 (Or.inl (ne_b4_b1))
      have fF_b4_value_5 := Fv4.other W5 (Or.inl (ne_b4_b1))
      have fV_c4_5 := V4.other W5 (ne_c4_b1)
      have fI_sz_5 := zz4.wr W5
      have EX5 := EKit.Ext_wr EX4 W5 gn_b1
      refine EKit.dup X5 hx rfl (hb hby at_38) (q := 39) rfl ?_
      refine EKit.iconst X5 hx (v := (2 : Int32)) rfl (hb hby at_39) (q := 40) rfl ?_
      obtain ⟨b6, T6, h6, kq6, c6, kb6, X6, e6, E6, hS6, hk6, hZ, hown, A6, Fc6, Fv6, Vb6, lt6, ltc6, I6, Li6, st6⟩ := ldcSVL (s := s) (vm0 := T4.vm) X5 hx hZ hown (hw _ (List.mem_of_getElem? (i := 12) rfl)) own_sa e5 hS4 fI_sz_5 (Fr.nil _) (fun _ _ q => by rw [hhz]; exact q) I4 (by decide) hh_SIGN_AND_ENCRYPT hcw (vs := [.int (83 : Int32), .int (105 : Int32), .int (103 : Int32), .int (110 : Int32), .int (65 : Int32), .int (110 : Int32), .int (100 : Int32), .int (69 : Int32), .int (110 : Int32), .int (99 : Int32), .int (114 : Int32), .int (121 : Int32), .int (112 : Int32), .int (116 : Int32)]) (z := (14 : Int32)) ⟨by decide, by decide +kernel⟩ (by decide) rfl (g := (mkF m 40 #[.val (.int p0), .val (.int p1), .val (.int (0 : Int32)), .val (.int (0 : Int32)), .unset, .unset, .unset, .unset, .unset, .unset] [(.int (2 : Int32)), (.ref b1), (.ref b1)])) rfl (hb hby at_40) (n := 56) (by decide) (by decide) (by decide) (by decide)
      have hs0 : (s.setVm T6.vm).heap = h0 := hs0
      have sz6 : h0.size ≤ h6.size := Nat.le_trans sz5 E6.1
      have fV_b1_6 := V5.ext E6
      have fE_b2_6 := fE_b2_5.ext E6
      have fF_b2_coder_6 := fF_b2_coder_5.ext E6
      have fF_b2_value_6 := fF_b2_value_5.ext E6
      have fV_c2_6 := fV_c2_5.ext E6
      have fE_b4_6 := fE_b4_5.ext E6
      have fF_b4_coder_6 := fF_b4_coder_5.ext E6
      have fF_b4_value_6 := fF_b4_value_5.ext E6
      have fV_c4_6 := fV_c4_5.ext E6
      have fI_sz_6 := fI_sz_5.ext E6
      have V6 : Ary Z h6 c6 kb6 .byte (14 : Int32) (fun j => .int (own_tE j)) := EKit.Ary.ofArv Vb6 (own_at_own_tE)
      have ne_b6_b1 : b6 ≠ b1 := EKit.Exa.ne_ary A6 (hw _ (List.mem_of_getElem? (i := 4) rfl)) fV_b1_6
      have ne_c6_b1 : c6 ≠ b1 := EKit.Ary.ne_ty V6 fV_b1_6 (by decide)
      have zz6 : EKit.Sz kq6 h6 := hk6
      have EX6 := EKit.Ext_trans EX5 E6
      refine EKit.step st6 ?_
      show EKit.EndsW p l e room_1 s m #[(.int p0), (.int p1)] below meth c room_1.cells room_1.slots (fun v h L => v = some (.int (1 : Int32)) ∧ Fr h0.size L) T6 (mkF m 42 #[.val (.int p0), .val (.int p1), .val (.int (0 : Int32)), .val (.int (0 : Int32)), .unset, .unset, .unset, .unset, .unset, .unset] [(.ref b6), (.int (2 : Int32)), (.ref b1), (.ref b1)])
      refine EKit.aastore X6 hx hZ e6 fV_b1_6 O1 (Ins.self A6) (by decide) (by decide) (hb hby at_42) (q := 43) rfl ?_
      intro T7 h7 X7 e7 W7 V7
      have X7 := Stand.forget X7 (fun y hy => by cases List.mem_singleton.mp hy; rw [hs0]; exact gn_b1)
      have sz7 : h0.size ≤ h7.size := Nat.le_trans sz6 (Keep.of_wr W7).1
      have fE_b2_7 := fE_b2_6.wr W7
      have fF_b2_coder_7 := fF_b2_coder_6.other W7 (Or.inl (ne_b2_b1))
      have fF_b2_value_7 := fF_b2_value_6.other W7 (Or.inl (ne_b2_b1))
      have fV_c2_7 := fV_c2_6.other W7 (ne_c2_b1)
      have fE_b4_7 := fE_b4_6.wr W7
      have fF_b4_coder_7 := fF_b4_coder_6.other W7 (Or.inl (ne_b4_b1))
      have fF_b4_value_7 := fF_b4_value_6.other W7 (Or.inl (ne_b4_b1))
      have fV_c4_7 := fV_c4_6.other W7 (ne_c4_b1)
      have fE_b6_7 := A6.wr W7
      have fF_b6_coder_7 := Fc6.other W7 (Or.inl (ne_b6_b1))
      have fF_b6_value_7 := Fv6.other W7 (Or.inl (ne_b6_b1))
      have fV_c6_7 := V6.other W7 (ne_c6_b1)
      have fI_sz_7 := zz6.wr W7
      have EX7 := EKit.Ext_wr EX6 W7 gn_b1
      refine EKit.dup X7 hx rfl (hb hby at_43) (q := 44) rfl ?_
      refine EKit.iconst X7 hx (v := (3 : Int32)) rfl (hb hby at_44) (q := 45) rfl ?_
      refine EKit.step (ldcAgain (s := s) (vm0 := T6.vm) X7 hx hZ hown (hw _ (List.mem_of_getElem? (i := 12) rfl)) Li6 (g := (mkF m 45 #[.val (.int p0), .val (.int p1), .val (.int (0 : Int32)), .val (.int (0 : Int32)), .unset, .unset, .unset, .unset, .unset, .unset] [(.int (3 : Int32)), (.ref b1), (.ref b1)])) rfl (hb hby at_45)) ?_
      show EKit.EndsW p l e room_1 s m #[(.int p0), (.int p1)] below meth c room_1.cells room_1.slots (fun v h L => v = some (.int (1 : Int32)) ∧ Fr h0.size L) T7 (mkF m 47 #[.val (.int p0), .val (.int p1), .val (.int (0 : Int32)), .val (.int (0 : Int32)), .unset, .unset, .unset, .unset, .unset, .unset] [(.ref b6), (.int (3 : Int32)), (.ref b1), (.ref b1)])
      refine EKit.aastore X7 hx hZ e7 V7 O1 (Ins.self fE_b6_7) (by decide) (by decide) (hb hby at_47) (q := 48) rfl ?_
      intro T9 h9 X9 e9 W9 V9
      have X9 := Stand.forget X9 (fun y hy => by cases List.mem_singleton.mp hy; rw [hs0]; exact gn_b1)
      have sz9 : h0.size ≤ h9.size := Nat.le_trans sz7 (Keep.of_wr W9).1
      have fE_b2_9 := fE_b2_7.wr W9
      have fF_b2_coder_9 := fF_b2_coder_7.other W9 (Or.inl (ne_b2_b1))
      have fF_b2_value_9 := fF_b2_value_7.other W9 (Or.inl (ne_b2_b1))
      have fV_c2_9 := fV_c2_7.other W9 (ne_c2_b1)
      have fE_b4_9 := fE_b4_7.wr W9
      have fF_b4_coder_9 := fF_b4_coder_7.other W9 (Or.inl (ne_b4_b1))
      have fF_b4_value_9 := fF_b4_value_7.other W9 (Or.inl (ne_b4_b1))
      have fV_c4_9 := fV_c4_7.other W9 (ne_c4_b1)
      have fE_b6_9 := fE_b6_7.wr W9
      have fF_b6_coder_9 := fF_b6_coder_7.other W9 (Or.inl (ne_b6_b1))
      have fF_b6_value_9 := fF_b6_value_7.other W9 (Or.inl (ne_b6_b1))
      have fV_c6_9 := fV_c6_7.other W9 (ne_c6_b1)
      have fI_sz_9 := fI_sz_7.wr W9
      have EX9 := EKit.Ext_wr EX7 W9 gn_b1
      refine EKit.astore X9 hx rfl (l' := #[.val (.int p0), .val (.int p1), .val (.int (0 : Int32)), .val (.int (0 : Int32)), .val (.ref b1), .unset, .unset, .unset, .unset, .unset]) rfl (hb hby at_48) (q := 50) rfl ?_
      refine EKit.iconst X9 hx (v := (4 : Int32)) rfl (hb hby at_50) (q := 51) rfl ?_
      refine EKit.newref X9 hx hZ hown e9 (hw _ (List.mem_of_getElem? (i := 13) rfl)) (hw _ (List.mem_of_getElem? (i := 14) rfl)) (by decide) (cap := 4) (by decide) (by decide) (by decide) (by decide) (hb hby at_51) (q := 54) rfl ?_
      intro T10 h10 b10 k10 X10 e10 E10 g10 O10 V10
      have V10 : Ary Z h10 b10 k10 (.object "com/example/pubframe/pubframe/message/SecurityMode") (4 : Int32) (fun _ => .null) := V10
      have gn_b10 : h0.size ≤ b10 := Nat.le_trans sz9 (Nat.le_of_eq g10.symm)
      have sz10 : h0.size ≤ h10.size := Nat.le_trans sz9 E10.1
      have ne_b1_b10 : b1 ≠ b10 := Nat.ne_of_lt (Nat.lt_of_lt_of_le (V9).lt (Nat.le_of_eq g10.symm))
      have ne_b10_b1 : b10 ≠ b1 := Ne.symm ne_b1_b10
      have ne_b2_b10 : b2 ≠ b10 := Nat.ne_of_lt (Nat.lt_of_lt_of_le (fE_b2_9).lt (Nat.le_of_eq g10.symm))
      have ne_b10_b2 : b10 ≠ b2 := Ne.symm ne_b2_b10
      have ne_c2_b10 : c2 ≠ b10 := Nat.ne_of_lt (Nat.lt_of_lt_of_le (fV_c2_9).lt (Nat.le_of_eq g10.symm))
      have ne_b10_c2 : b10 ≠ c2 := Ne.symm ne_c2_b10
      have ne_b4_b10 : b4 ≠ b10 := Nat.ne_of_lt (Nat.lt_of_lt_of_le (fE_b4_9).lt (Nat.le_of_eq g10.symm))
      have ne_b10_b4 : b10 ≠ b4 := Ne.symm ne_b4_b10
      have ne_c4_b10 : c4 ≠ b10 := Nat.ne_of_lt (Nat.lt_of_lt_of_le (fV_c4_9).lt (Nat.le_of_eq g10.symm))
      have ne_b10_c4 : b10 ≠ c4 := Ne.symm ne_c4_b10
      have ne_b6_b10 : b6 ≠ b10 := Nat.ne_of_lt (Nat.lt_of_lt_of_le (fE_b6_9).lt (Nat.le_of_eq g10.symm))
      have ne_b10_b6 : b10 ≠ b6 := Ne.symm ne_b6_b10
      have ne_c6_b10 : c6 ≠ b10 := Nat.ne_of_lt (Nat.lt_of_lt_of_le (fV_c6_9).lt (Nat.le_of_eq g10.symm))
      have ne_b10_c6 : b10 ≠ c6 := Ne.symm ne_c6_b10
      have fV_b1_10 := V9.ext E10
      have fE_b2_10 := fE_b2_9.ext E10
      have fF_b2_coder_10 := fF_b2_coder_9.ext E10
      have fF_b2_value_10 := fF_b2_value_9.ext E10
      have fV_c2_10 := fV_c2_9.ext E10
      have fE_b4_10 := fE_b4_9.ext E10
      have fF_b4_coder_10 := fF_b4_coder_9.ext E10
      have fF_b4_value_10 := fF_b4_value_9.ext E10
      have fV_c4_10 := fV_c4_9.ext E10
      have fE_b6_10 := fE_b6_9.ext E10
      have fF_b6_coder_10 := fF_b6_coder_9.ext E10
      have fF_b6_value_10 := fF_b6_value_9.ext E10
      have fV_c6_10 := fV_c6_9.ext E10
      have fI_sz_10 := fI_sz_9.ext E10
      have EX10 := EKit.Ext_trans EX9 E10
      show EKit.EndsW p l e room_1 s m #[(.int p0), (.int p1)] below meth c room_1.cells room_1.slots (fun v h L => v = some (.int (1 : Int32)) ∧ Fr h0.size L) T10 (mkF m 54 #[.val (.int p0), .val (.int p1), .val (.int (0 : Int32)), .val (.int (0 : Int32)), .val (.ref b1), .unset, .unset, .unset, .unset, .unset] [(.ref b10)])
      refine EKit.dup X10 hx rfl (hb hby at_54) (q := 55) rfl ?_
      refine EKit.iconst X10 hx (v := (0 : Int32)) rfl (hb hby at_55) (q := 56) rfl ?_
      obtain ⟨T11, X11, e11, st11⟩ := getS X10 hx hZ (host := "") hown (hw _ (List.mem_of_getElem? (i := 15) rfl)) Via.refl e10 (S_NONE.ext EX10) (g := (mkF m 56 #[.val (.int p0), .val (.int p1), .val (.int (0 : Int32)), .val (.int (0 : Int32)), .val (.ref b1), .unset, .unset, .unset, .unset, .unset] [(.int (0 : Int32)), (.ref b10), (.ref b10)])) rfl (hb hby at_56)
      refine EKit.step st11 ?_
      show EKit.EndsW p l e room_1 s m #[(.int p0), (.int p1)] below meth c room_1.cells room_1.slots (fun v h L => v = some (.int (1 : Int32)) ∧ Fr h0.size L) T11 (mkF m 59 #[.val (.int p0), .val (.int p1), .val (.int (0 : Int32)), .val (.int (0 : Int32)), .val (.ref b1), .unset, .unset, .unset, .unset, .unset] [(.ref w_NONE), (.int (0 : Int32)), (.ref b10), (.ref b10)])
      refine EKit.aastore X11 hx hZ e11 V10 O10 (Ins.self (E_NONE.ext EX10)) (by decide) (by decide) (hb hby at_59) (q := 60) rfl ?_
      intro T12 h12 X12 e12 W12 V12
      have X12 := Stand.forget X12 (fun y hy => by cases List.mem_singleton.mp hy; rw [hs0]; exact gn_b10)
      have sz12 : h0.size ≤ h12.size := Nat.le_trans sz10 (Keep.of_wr W12).1
      have fV_b1_12 := fV_b1_10.other W12 (ne_b1_b10)
      have fE_b2_12 := fE_b2_10.wr W12
      have fF_b2_coder_12 := fF_b2_coder_10.other W12 (Or.inl (ne_b2_b10))
      have fF_b2_value_12 := fF_b2_value_10.other W12 (Or.inl (ne_b2_b10))
      have fV_c2_12 := fV_c2_10.other W12 (ne_c2_b10)
      have fE_b4_12 := fE_b4_10.wr W12
      have fF_b4_coder_12 := fF_b4_coder_10.other W12 (Or.inl (ne_b4_b10))
      have fF_b4_value_12 := fF_b4_value_10.other W12 (Or.inl (ne_b4_b10))
      have fV_c4_12 := fV_c4_10.other W12 (ne_c4_b10)
      have fE_b6_12 := fE_b6_10.wr W12
      have fF_b6_coder_12 := fF_b6_coder_10.other W12 (Or.inl (ne_b6_b10))
      have fF_b6_value_12 := fF_b6_value_10.other W12 (Or.inl (ne_b6_b10))
      have fV_c6_12 := fV_c6_10.other W12 (ne_c6_b10)
      have fI_sz_12 := fI_sz_10.wr W12
      have EX12 := EKit.Ext_wr EX10 W12 gn_b10
      refine EKit.dup X12 hx rfl (hb hby at_60) (q := 61) rfl ?_
      refine EKit.iconst X12 hx (v := (1 : Int32)) rfl (hb hby at_61) (q := 62) rfl ?_
      obtain ⟨T13, X13, e13, st13⟩ := getS X12 hx hZ (host := "") hown (hw _ (List.mem_of_getElem? (i := 19) rfl)) Via.refl e12 (S_SIGN.ext EX12) (g := (mkF m 62 #[.val (.int p0), .val (.int p1), .val (.int (0 : Int32)), .val (.int (0 : Int32)), .val (.ref b1), .unset, .unset, .unset, .unset, .unset] [(.int (1 : Int32)), (.ref b10), (.ref b10)])) rfl (hb hby at_62)
      refine EKit.step st13 ?_
      show EKit.EndsW p l e room_1 s m #[(.int p0), (.int p1)] below meth c room_1.cells room_1.slots (fun v h L => v = some (.int (1 : Int32)) ∧ Fr h0.size L) T13 (mkF m 65 #[.val (.int p0), .val (.int p1), .val (.int (0 : Int32)), .val (.int (0 : Int32)), .val (.ref b1), .unset, .unset, .unset, .unset, .unset] [(.ref w_SIGN), (.int (1 : Int32)), (.ref b10), (.ref b10)])
      refine EKit.aastore X13 hx hZ e13 V12 O10 (Ins.self (E_SIGN.ext EX12)) (by decide) (by decide) (hb hby at_65) (q := 66) rfl ?_
      intro T14 h14 X14 e14 W14 V14
      have X14 := Stand.forget X14 (fun y hy => by cases List.mem_singleton.mp hy; rw [hs0]; exact gn_b10)
      have sz14 : h0.size ≤ h14.size := Nat.le_trans sz12 (Keep.of_wr W14).1
      have fV_b1_14 := fV_b1_12.other W14 (ne_b1_b10)
      have fE_b2_14 := fE_b2_12.wr W14
      have fF_b2_coder_14 := fF_b2_coder_12.other W14 (Or.inl (ne_b2_b10))
      have fF_b2_value_14 := fF_b2_value_12.other W14 (Or.inl (ne_b2_b10))
      have fV_c2_14 := fV_c2_12.other W14 (ne_c2_b10)
      have fE_b4_14 := fE_b4_12.wr W14
      have fF_b4_coder_14 := fF_b4_coder_12.other W14 (Or.inl (ne_b4_b10))
      have fF_b4_value_14 := fF_b4_value_12.other W14 (Or.inl (ne_b4_b10))
      have fV_c4_14 := fV_c4_12.other W14 (ne_c4_b10)
      have fE_b6_14 := fE_b6_12.wr W14
      have fF_b6_coder_14 := fF_b6_coder_12.other W14 (Or.inl (ne_b6_b10))
      have fF_b6_value_14 := fF_b6_value_12.other W14 (Or.inl (ne_b6_b10))
      have fV_c6_14 := fV_c6_12.other W14 (ne_c6_b10)
      have fI_sz_14 := fI_sz_12.wr W14
      have EX14 := EKit.Ext_wr EX12 W14 gn_b10
      refine EKit.dup X14 hx rfl (hb hby at_66) (q := 67) rfl ?_
      refine EKit.iconst X14 hx (v := (2 : Int32)) rfl (hb hby at_67) (q := 68) rfl ?_
      obtain ⟨T15, X15, e15, st15⟩ := getS X14 hx hZ (host := "") hown (hw _ (List.mem_of_getElem? (i := 21) rfl)) Via.refl e14 (S_SIGN_AND_ENCRYPT.ext EX14) (g := (mkF m 68 #[.val (.int p0), .val (.int p1), .val (.int (0 : Int32)), .val (.int (0 : Int32)), .val (.ref b1), .unset, .unset, .unset, .unset, .unset] [(.int (2 : Int32)), (.ref b10), (.ref b10)])) rfl (hb hby at_68)
      refine EKit.step st15 ?_
      show EKit.EndsW p l e room_1 s m #[(.int p0), (.int p1)] below meth c room_1.cells room_1.slots (fun v h L => v = some (.int (1 : Int32)) ∧ Fr h0.size L) T15 (mkF m 71 #[.val (.int p0), .val (.int p1), .val (.int (0 : Int32)), .val (.int (0 : Int32)), .val (.ref b1), .unset, .unset, .unset, .unset, .unset] [(.ref w_SIGN_AND_ENCRYPT), (.int (2 : Int32)), (.ref b10), (.ref b10)])
      refine EKit.aastore X15 hx hZ e15 V14 O10 (Ins.self (E_SIGN_AND_ENCRYPT.ext EX14)) (by decide) (by decide) (hb hby at_71) (q := 72) rfl ?_
      intro T16 h16 X16 e16 W16 V16
      have X16 := Stand.forget X16 (fun y hy => by cases List.mem_singleton.mp hy; rw [hs0]; exact gn_b10)
      have sz16 : h0.size ≤ h16.size := Nat.le_trans sz14 (Keep.of_wr W16).1
      have fV_b1_16 := fV_b1_14.other W16 (ne_b1_b10)
      have fE_b2_16 := fE_b2_14.wr W16
      have fF_b2_coder_16 := fF_b2_coder_14.other W16 (Or.inl (ne_b2_b10))
      have fF_b2_value_16 := fF_b2_value_14.other W16 (Or.inl (ne_b2_b10))
      have fV_c2_16 := fV_c2_14.other W16 (ne_c2_b10)
      have fE_b4_16 := fE_b4_14.wr W16
      have fF_b4_coder_16 := fF_b4_coder_14.other W16 (Or.inl (ne_b4_b10))
      have fF_b4_value_16 := fF_b4_value_14.other W16 (Or.inl (ne_b4_b10))
      have fV_c4_16 := fV_c4_14.other W16 (ne_c4_b10)
      have fE_b6_16 := fE_b6_14.wr W16
      have fF_b6_coder_16 := fF_b6_coder_14.other W16 (Or.inl (ne_b6_b10))
      have fF_b6_value_16 := fF_b6_value_14.other W16 (Or.inl (ne_b6_b10))
      have fV_c6_16 := fV_c6_14.other W16 (ne_c6_b10)
      have fI_sz_16 := fI_sz_14.wr W16
      have EX16 := EKit.Ext_wr EX14 W16 gn_b10
      refine EKit.dup X16 hx rfl (hb hby at_72) (q := 73) rfl ?_
      refine EKit.iconst X16 hx (v := (3 : Int32)) rfl (hb hby at_73) (q := 74) rfl ?_
      obtain ⟨T17, X17, e17, st17⟩ := getS X16 hx hZ (host := "") hown (hw _ (List.mem_of_getElem? (i := 21) rfl)) Via.refl e16 (S_SIGN_AND_ENCRYPT.ext EX16) (g := (mkF m 74 #[.val (.int p0), .val (.int p1), .val (.int (0 : Int32)), .val (.int (0 : Int32)), .val (.ref b1), .unset, .unset, .unset, .unset, .unset] [(.int (3 : Int32)), (.ref b10), (.ref b10)])) rfl (hb hby at_74)
      refine EKit.step st17 ?_
      show EKit.EndsW p l e room_1 s m #[(.int p0), (.int p1)] below meth c room_1.cells room_1.slots (fun v h L => v = some (.int (1 : Int32)) ∧ Fr h0.size L) T17 (mkF m 77 #[.val (.int p0), .val (.int p1), .val (.int (0 : Int32)), .val (.int (0 : Int32)), .val (.ref b1), .unset, .unset, .unset, .unset, .unset] [(.ref w_SIGN_AND_ENCRYPT), (.int (3 : Int32)), (.ref b10), (.ref b10)])
      refine EKit.aastore X17 hx hZ e17 V16 O10 (Ins.self (E_SIGN_AND_ENCRYPT.ext EX16)) (by decide) (by decide) (hb hby at_77) (q := 78) rfl ?_
      intro T18 h18 X18 e18 W18 V18
      have X18 := Stand.forget X18 (fun y hy => by cases List.mem_singleton.mp hy; rw [hs0]; exact gn_b10)
      have sz18 : h0.size ≤ h18.size := Nat.le_trans sz16 (Keep.of_wr W18).1
      have fV_b1_18 := fV_b1_16.other W18 (ne_b1_b10)
      have fE_b2_18 := fE_b2_16.wr W18
      have fF_b2_coder_18 := fF_b2_coder_16.other W18 (Or.inl (ne_b2_b10))
      have fF_b2_value_18 := fF_b2_value_16.other W18 (Or.inl (ne_b2_b10))
      have fV_c2_18 := fV_c2_16.other W18 (ne_c2_b10)
      have fE_b4_18 := fE_b4_16.wr W18
      have fF_b4_coder_18 := fF_b4_coder_16.other W18 (Or.inl (ne_b4_b10))
      have fF_b4_value_18 := fF_b4_value_16.other W18 (Or.inl (ne_b4_b10))
      have fV_c4_18 := fV_c4_16.other W18 (ne_c4_b10)
      have fE_b6_18 := fE_b6_16.wr W18
      have fF_b6_coder_18 := fF_b6_coder_16.other W18 (Or.inl (ne_b6_b10))
      have fF_b6_value_18 := fF_b6_value_16.other W18 (Or.inl (ne_b6_b10))
      have fV_c6_18 := fV_c6_16.other W18 (ne_c6_b10)
      have fI_sz_18 := fI_sz_16.wr W18
      have EX18 := EKit.Ext_wr EX16 W18 gn_b10
      refine EKit.astore X18 hx rfl (l' := #[.val (.int p0), .val (.int p1), .val (.int (0 : Int32)), .val (.int (0 : Int32)), .val (.ref b1), .val (.ref b10), .unset, .unset, .unset, .unset]) rfl (hb hby at_78) (q := 80) rfl ?_
      refine EKit.iloadN X18 hx rfl (hb hby at_80) (q := 81) rfl ?_
      have h81 : (0 : Int32) = (0 : Int32) := by decide
      refine EKit.ifYes X18 hx (EKit.c_t (teq h81).1) (hb hby at_81) (by decide) (q := 88) (by decide) ?_
      refine EKit.iconst X18 hx (v := (0 : Int32)) rfl (hb hby at_88) (q := 89) rfl ?_
      refine EKit.iloadN X18 hx rfl (hb hby at_89) (q := 90) rfl ?_
      have h90 : (0 : Int32) = (0 : Int32) := by decide
      refine EKit.ifYes X18 hx (EKit.c_t (teq h90).1) (hb hby at_90) (by decide) (q := 97) (by decide) ?_
      refine EKit.iconst X18 hx (v := (0 : Int32)) rfl (hb hby at_97) (q := 98) rfl ?_
      refine EKit.iadd X18 hx  (hb hby at_98) (q := 99) rfl ?_
      refine EKit.istore X18 hx (l' := #[.val (.int p0), .val (.int p1), .val (.int (0 : Int32)), .val (.int (0 : Int32)), .val (.ref b1), .val (.ref b10), .val (.int ((0 : Int32) + (0 : Int32))), .unset, .unset, .unset]) rfl (hb hby at_99) (q := 101) rfl ?_
      refine EKit.iloadN X18 hx rfl (hb hby at_101) (q := 102) rfl ?_
      refine EKit.iloadN X18 hx rfl (hb hby at_102) (q := 103) rfl ?_
      refine EKit.callS X18 hx hZ hown e18 (y := (⟨"com/example/pubframe/pubframe/message/SecurityMode", "of", "(ZZ)Lcom/example/pubframe/pubframe/message/SecurityMode;"⟩ : MethodName)) (hw _ (List.mem_of_getElem? (i := 23) rfl)) (hw _ (List.mem_of_getElem? (i := 24) rfl)) (hw _ (List.mem_of_getElem? (i := 16) rfl)) (hw _ (List.mem_of_getElem? (i := 25) rfl)) (by decide) (argsL := [(.int (0 : Int32)), (.int (0 : Int32))]) (rm1_00 l Z a0 hw [] h18 w_NONE w_SIGN w_SIGN_AND_ENCRYPT (S_NONE.ext EX18) (S_SIGN.ext EX18) (S_SIGN_AND_ENCRYPT.ext EX18)) (rest := []) (by rw [hml]; rfl) pd__ZZ_Lcom_example_pubframe_pubframe_message_SecurityMode_ rfl (W := 0) (Nat.le_of_eq rfl) (by decide) (by decide) (by decide) (by decide) rfl (hb hby at_103) (q := 106) rfl ?_
      intro T19 v19 L19 X19 hQ19
      obtain ⟨X19, e19, ev19⟩ := EKit.pureK X19 hQ19
      subst ev19
      show EKit.EndsW p l e room_1 s m #[(.int p0), (.int p1)] below meth c room_1.cells room_1.slots (fun v h L => v = some (.int (1 : Int32)) ∧ Fr h0.size L) T19 (mkF m 106 #[.val (.int p0), .val (.int p1), .val (.int (0 : Int32)), .val (.int (0 : Int32)), .val (.ref b1), .val (.ref b10), .val (.int ((0 : Int32) + (0 : Int32))), .unset, .unset, .unset] [(.ref w_NONE)])
      refine EKit.astore X19 hx rfl (l' := #[.val (.int p0), .val (.int p1), .val (.int (0 : Int32)), .val (.int (0 : Int32)), .val (.ref b1), .val (.ref b10), .val (.int ((0 : Int32) + (0 : Int32))), .val (.ref w_NONE), .unset, .unset]) rfl (hb hby at_106) (q := 108) rfl ?_
      refine EKit.aload X19 hx rfl rfl (hb hby at_108) (q := 110) rfl ?_
      refine EKit.ifnonnullYes X19 hx (hb hby at_110) (by decide) (q := 115) (by decide) ?_
      refine EKit.aload X19 hx rfl rfl (hb hby at_115) (q := 117) rfl ?_
      refine EKit.aload X19 hx rfl rfl (hb hby at_117) (q := 119) rfl ?_
      refine EKit.iload X19 hx rfl (hb hby at_119) (q := 121) rfl ?_
      refine EKit.aaload X19 hx hZ e19 rfl V18 (by decide) (by decide) (v := (.ref w_NONE)) (by first | rfl | simp) (hb hby at_121) (q := 122) rfl ?_
      have h122 : w_NONE = w_NONE := rfl
      refine EKit.acmp X19 hx rfl rfl (same := true) (EKit.rr_t h122) (hb hby at_122) (by decide) (q := 127) (by decide) ?_
      refine EKit.aload X19 hx rfl rfl (hb hby at_127) (q := 129) rfl ?_
      refine EKit.iload X19 hx rfl (hb hby at_129) (q := 131) rfl ?_
      refine EKit.aaload X19 hx hZ e19 rfl fV_b1_18 (by decide) (by decide) (v := (.ref b2)) (by first | rfl | simp) (hb hby at_131) (q := 132) rfl ?_
      refine EKit.aload X19 hx rfl rfl (hb hby at_132) (q := 134) rfl ?_
      refine EKit.callV X19 hx hZ hown e19 (y := (⟨"com/example/pubframe/pubframe/message/SecurityMode", "specName", "()Ljava/lang/String;"⟩ : MethodName)) (z := (⟨"com/example/pubframe/pubframe/message/SecurityMode", "specName", "()Ljava/lang/String;"⟩ : MethodName)) (K := "com/example/pubframe/pubframe/message/SecurityMode") (hw _ (List.mem_of_getElem? (i := 27) rfl)) (hw _ (List.mem_of_getElem? (i := 28) rfl)) (notFace_of_selects (args := #[]) (mvT hZ (hw _ (List.mem_of_getElem? (i := 30) rfl)))) (hw _ (List.mem_of_getElem? (i := 30) rfl)) (hw _ (List.mem_of_getElem? (i := 29) rfl)) (hw _ (List.mem_of_getElem? (i := 16) rfl)) (hw _ (List.mem_of_getElem? (i := 31) rfl)) (by decide) (a := w_NONE) ((E_NONE.ext EX18)) (argsL := []) (rm2 l Z a0 hw [] w_NONE h18 sp_NONE (N_NONE.ext EX18)) (rest := [(.ref b2)]) (by rw [hml]; rfl) pd___Ljava_lang_String_ rfl (W := 1) (Nat.le_of_eq rfl) (by decide) (by decide) (by decide) (by decide) rfl (hb hby at_134) (q := 137) rfl ?_
      intro T20 v20 L20 X20 hQ20
      obtain ⟨X20, e20, ev20⟩ := EKit.pureK X20 hQ20
      subst ev20
      show EKit.EndsW p l e room_1 s m #[(.int p0), (.int p1)] below meth c room_1.cells room_1.slots (fun v h L => v = some (.int (1 : Int32)) ∧ Fr h0.size L) T20 (mkF m 137 #[.val (.int p0), .val (.int p1), .val (.int (0 : Int32)), .val (.int (0 : Int32)), .val (.ref b1), .val (.ref b10), .val (.int ((0 : Int32) + (0 : Int32))), .val (.ref w_NONE), .unset, .unset] [(.ref sp_NONE), (.ref b2)])
      refine EKit.callV X20 hx hZ hown e20 (y := (⟨"java/lang/String", "equals", "(Ljava/lang/Object;)Z"⟩ : MethodName)) (z := (⟨"java/lang/String", "equals", "(Ljava/lang/Object;)Z"⟩ : MethodName)) (K := "java/lang/String") (hw _ (List.mem_of_getElem? (i := 34) rfl)) (hw _ (List.mem_of_getElem? (i := 35) rfl)) (notFace_of_selects (args := #[]) (mvT hZ (hw _ (List.mem_of_getElem? (i := 37) rfl)))) (hw _ (List.mem_of_getElem? (i := 37) rfl)) (hw _ (List.mem_of_getElem? (i := 36) rfl)) (hw _ (List.mem_of_getElem? (i := 3) rfl)) (hw _ (List.mem_of_getElem? (i := 38) rfl)) (by decide) (a := b2) (fE_b2_18) (argsL := [(.ref sp_NONE)]) (rm3 l Z a0 hw [] b2 sp_NONE h18 c2 dd_NONE z_CS (S_CS.ext EX18) P_CS (4 : Int32) own_tN kb2 kk_NONE fE_b2_18 fF_b2_coder_18 fF_b2_value_18 fV_c2_18 (E_sp_NONE.ext EX18) (C_sp_NONE.ext EX18) (B_sp_NONE.ext EX18) (V_sp_NONE.ext EX18)) (rest := []) (by rw [hml]; rfl) pd__Ljava_lang_Object__Z rfl (W := 0) (Nat.le_of_eq rfl) (by decide) (by decide) (by decide) (by decide) rfl (hb hby at_137) (q := 140) rfl ?_
      intro T21 v21 L21 X21 hQ21
      obtain ⟨X21, e21, ev21⟩ := EKit.pureK X21 hQ21
      subst ev21
      show EKit.EndsW p l e room_1 s m #[(.int p0), (.int p1)] below meth c room_1.cells room_1.slots (fun v h L => v = some (.int (1 : Int32)) ∧ Fr h0.size L) T21 (mkF m 140 #[.val (.int p0), .val (.int p1), .val (.int (0 : Int32)), .val (.int (0 : Int32)), .val (.ref b1), .val (.ref b10), .val (.int ((0 : Int32) + (0 : Int32))), .val (.ref w_NONE), .unset, .unset] [(.int (1 : Int32))])
      have h140 : ¬ ((1 : Int32) = (0 : Int32)) := by decide
      refine EKit.ifYes X21 hx (EKit.c_t (feq h140).2) (hb hby at_140) (by decide) (q := 145) (by decide) ?_
      refine EKit.iconst X21 hx (v := (1 : Int32)) rfl (hb hby at_145) (q := 146) rfl ?_
      refine EKit.iloadN X21 hx rfl (hb hby at_146) (q := 147) rfl ?_
      refine EKit.callS X21 hx hZ hown e21 (y := (⟨"com/example/pubframe/pubframe/message/SecurityMode", "of", "(ZZ)Lcom/example/pubframe/pubframe/message/SecurityMode;"⟩ : MethodName)) (hw _ (List.mem_of_getElem? (i := 23) rfl)) (hw _ (List.mem_of_getElem? (i := 24) rfl)) (hw _ (List.mem_of_getElem? (i := 16) rfl)) (hw _ (List.mem_of_getElem? (i := 25) rfl)) (by decide) (argsL := [(.int (1 : Int32)), (.int (0 : Int32))]) (rm1_10 l Z a0 hw [] h18 w_NONE w_SIGN w_SIGN_AND_ENCRYPT (S_NONE.ext EX18) (S_SIGN.ext EX18) (S_SIGN_AND_ENCRYPT.ext EX18)) (rest := []) (by rw [hml]; rfl) pd__ZZ_Lcom_example_pubframe_pubframe_message_SecurityMode_ rfl (W := 0) (Nat.le_of_eq rfl) (by decide) (by decide) (by decide) (by decide) rfl (hb hby at_147) (q := 150) rfl ?_
      intro T22 v22 L22 X22 hQ22
      obtain ⟨X22, e22, ev22⟩ := EKit.pureK X22 hQ22
      subst ev22
      show EKit.EndsW p l e room_1 s m #[(.int p0), (.int p1)] below meth c room_1.cells room_1.slots (fun v h L => v = some (.int (1 : Int32)) ∧ Fr h0.size L) T22 (mkF m 150 #[.val (.int p0), .val (.int p1), .val (.int (0 : Int32)), .val (.int (0 : Int32)), .val (.ref b1), .val (.ref b10), .val (.int ((0 : Int32) + (0 : Int32))), .val (.ref w_NONE), .unset, .unset] [(.ref w_SIGN)])
      refine EKit.astore X22 hx rfl (l' := #[.val (.int p0), .val (.int p1), .val (.int (0 : Int32)), .val (.int (0 : Int32)), .val (.ref b1), .val (.ref b10), .val (.int ((0 : Int32) + (0 : Int32))), .val (.ref w_NONE), .val (.ref w_SIGN), .unset]) rfl (hb hby at_150) (q := 152) rfl ?_
      refine EKit.iloadN X22 hx rfl (hb hby at_152) (q := 153) rfl ?_
      refine EKit.iconst X22 hx (v := (1 : Int32)) rfl (hb hby at_153) (q := 154) rfl ?_
      refine EKit.callS X22 hx hZ hown e22 (y := (⟨"com/example/pubframe/pubframe/message/SecurityMode", "of", "(ZZ)Lcom/example/pubframe/pubframe/message/SecurityMode;"⟩ : MethodName)) (hw _ (List.mem_of_getElem? (i := 23) rfl)) (hw _ (List.mem_of_getElem? (i := 24) rfl)) (hw _ (List.mem_of_getElem? (i := 16) rfl)) (hw _ (List.mem_of_getElem? (i := 25) rfl)) (by decide) (argsL := [(.int (0 : Int32)), (.int (1 : Int32))]) (rm1_01 l Z a0 hw [] h18 w_NONE w_SIGN w_SIGN_AND_ENCRYPT (S_NONE.ext EX18) (S_SIGN.ext EX18) (S_SIGN_AND_ENCRYPT.ext EX18)) (rest := []) (by rw [hml]; rfl) pd__ZZ_Lcom_example_pubframe_pubframe_message_SecurityMode_ rfl (W := 0) (Nat.le_of_eq rfl) (by decide) (by decide) (by decide) (by decide) rfl (hb hby at_154) (q := 157) rfl ?_
      intro T23 v23 L23 X23 hQ23
      obtain ⟨X23, e23, ev23⟩ := EKit.pureK X23 hQ23
      subst ev23
      show EKit.EndsW p l e room_1 s m #[(.int p0), (.int p1)] below meth c room_1.cells room_1.slots (fun v h L => v = some (.int (1 : Int32)) ∧ Fr h0.size L) T23 (mkF m 157 #[.val (.int p0), .val (.int p1), .val (.int (0 : Int32)), .val (.int (0 : Int32)), .val (.ref b1), .val (.ref b10), .val (.int ((0 : Int32) + (0 : Int32))), .val (.ref w_NONE), .val (.ref w_SIGN), .unset] [(.ref w_SIGN_AND_ENCRYPT)])
      refine EKit.astore X23 hx rfl (l' := #[.val (.int p0), .val (.int p1), .val (.int (0 : Int32)), .val (.int (0 : Int32)), .val (.ref b1), .val (.ref b10), .val (.int ((0 : Int32) + (0 : Int32))), .val (.ref w_NONE), .val (.ref w_SIGN), .val (.ref w_SIGN_AND_ENCRYPT)]) rfl (hb hby at_157) (q := 159) rfl ?_
      refine EKit.aload X23 hx rfl rfl (hb hby at_159) (q := 161) rfl ?_
      refine EKit.ifnullNo X23 hx (hb hby at_161) (q := 164) rfl ?_
      refine EKit.aload X23 hx rfl rfl (hb hby at_164) (q := 166) rfl ?_
      refine EKit.ifnonnullYes X23 hx (hb hby at_166) (by decide) (q := 171) (by decide) ?_
      refine EKit.aload X23 hx rfl rfl (hb hby at_171) (q := 173) rfl ?_
      refine EKit.callS X23 hx hZ hown e23 (y := (⟨"com/example/pubframe/pubframe/message/SecurityModeOfPinLaw", "rank", "(Lcom/example/pubframe/pubframe/message/SecurityMode;)I"⟩ : MethodName)) (hw _ (List.mem_of_getElem? (i := 47) rfl)) (hw _ (List.mem_of_getElem? (i := 48) rfl)) (hw _ (List.mem_of_getElem? (i := 49) rfl)) (hw _ (List.mem_of_getElem? (i := 50) rfl)) (by decide) (argsL := [(.ref w_SIGN)]) (rm5_SIGN l Z a0 hw [] w_SIGN h18 w_NONE w_SIGN_AND_ENCRYPT (S_NONE.ext EX18) (S_SIGN.ext EX18) (S_SIGN_AND_ENCRYPT.ext EX18) ne_SN ne_EN ne_ES) (rest := []) (by rw [hml]; rfl) pd__Lcom_example_pubframe_pubframe_message_SecurityMode__I rfl (W := 0) (Nat.le_of_eq rfl) (by decide) (by decide) (by decide) (by decide) rfl (hb hby at_173) (q := 176) rfl ?_
      intro T24 v24 L24 X24 hQ24
      obtain ⟨X24, e24, ev24⟩ := EKit.pureK X24 hQ24
      subst ev24
      show EKit.EndsW p l e room_1 s m #[(.int p0), (.int p1)] below meth c room_1.cells room_1.slots (fun v h L => v = some (.int (1 : Int32)) ∧ Fr h0.size L) T24 (mkF m 176 #[.val (.int p0), .val (.int p1), .val (.int (0 : Int32)), .val (.int (0 : Int32)), .val (.ref b1), .val (.ref b10), .val (.int ((0 : Int32) + (0 : Int32))), .val (.ref w_NONE), .val (.ref w_SIGN), .val (.ref w_SIGN_AND_ENCRYPT)] [(.int (1 : Int32))])
      refine EKit.aload X24 hx rfl rfl (hb hby at_176) (q := 178) rfl ?_
      refine EKit.callS X24 hx hZ hown e24 (y := (⟨"com/example/pubframe/pubframe/message/SecurityModeOfPinLaw", "rank", "(Lcom/example/pubframe/pubframe/message/SecurityMode;)I"⟩ : MethodName)) (hw _ (List.mem_of_getElem? (i := 47) rfl)) (hw _ (List.mem_of_getElem? (i := 48) rfl)) (hw _ (List.mem_of_getElem? (i := 49) rfl)) (hw _ (List.mem_of_getElem? (i := 50) rfl)) (by decide) (argsL := [(.ref w_NONE)]) (rm5_NONE l Z a0 hw [] w_NONE h18 w_SIGN w_SIGN_AND_ENCRYPT (S_NONE.ext EX18) (S_SIGN.ext EX18) (S_SIGN_AND_ENCRYPT.ext EX18) ne_SN ne_EN ne_ES) (rest := [(.int (1 : Int32))]) (by rw [hml]; rfl) pd__Lcom_example_pubframe_pubframe_message_SecurityMode__I rfl (W := 1) (Nat.le_of_eq rfl) (by decide) (by decide) (by decide) (by decide) rfl (hb hby at_178) (q := 181) rfl ?_
      intro T25 v25 L25 X25 hQ25
      obtain ⟨X25, e25, ev25⟩ := EKit.pureK X25 hQ25
      subst ev25
      show EKit.EndsW p l e room_1 s m #[(.int p0), (.int p1)] below meth c room_1.cells room_1.slots (fun v h L => v = some (.int (1 : Int32)) ∧ Fr h0.size L) T25 (mkF m 181 #[.val (.int p0), .val (.int p1), .val (.int (0 : Int32)), .val (.int (0 : Int32)), .val (.ref b1), .val (.ref b10), .val (.int ((0 : Int32) + (0 : Int32))), .val (.ref w_NONE), .val (.ref w_SIGN), .val (.ref w_SIGN_AND_ENCRYPT)] [(.int (0 : Int32)), (.int (1 : Int32))])
      have h181 : ¬ ((1 : Int32) < (0 : Int32)) := by decide
      refine EKit.icmpNo X25 hx ((flt h181).1) (hb hby at_181) (q := 184) rfl ?_
      refine EKit.aload X25 hx rfl rfl (hb hby at_184) (q := 186) rfl ?_
      refine EKit.callS X25 hx hZ hown e25 (y := (⟨"com/example/pubframe/pubframe/message/SecurityModeOfPinLaw", "rank", "(Lcom/example/pubframe/pubframe/message/SecurityMode;)I"⟩ : MethodName)) (hw _ (List.mem_of_getElem? (i := 47) rfl)) (hw _ (List.mem_of_getElem? (i := 48) rfl)) (hw _ (List.mem_of_getElem? (i := 49) rfl)) (hw _ (List.mem_of_getElem? (i := 50) rfl)) (by decide) (argsL := [(.ref w_SIGN_AND_ENCRYPT)]) (rm5_SIGN_AND_ENCRYPT l Z a0 hw [] w_SIGN_AND_ENCRYPT h18 w_NONE w_SIGN (S_NONE.ext EX18) (S_SIGN.ext EX18) (S_SIGN_AND_ENCRYPT.ext EX18) ne_SN ne_EN ne_ES) (rest := []) (by rw [hml]; rfl) pd__Lcom_example_pubframe_pubframe_message_SecurityMode__I rfl (W := 0) (Nat.le_of_eq rfl) (by decide) (by decide) (by decide) (by decide) rfl (hb hby at_186) (q := 189) rfl ?_
      intro T26 v26 L26 X26 hQ26
      obtain ⟨X26, e26, ev26⟩ := EKit.pureK X26 hQ26
      subst ev26
      show EKit.EndsW p l e room_1 s m #[(.int p0), (.int p1)] below meth c room_1.cells room_1.slots (fun v h L => v = some (.int (1 : Int32)) ∧ Fr h0.size L) T26 (mkF m 189 #[.val (.int p0), .val (.int p1), .val (.int (0 : Int32)), .val (.int (0 : Int32)), .val (.ref b1), .val (.ref b10), .val (.int ((0 : Int32) + (0 : Int32))), .val (.ref w_NONE), .val (.ref w_SIGN), .val (.ref w_SIGN_AND_ENCRYPT)] [(.int (2 : Int32))])
      refine EKit.aload X26 hx rfl rfl (hb hby at_189) (q := 191) rfl ?_
      refine EKit.callS X26 hx hZ hown e26 (y := (⟨"com/example/pubframe/pubframe/message/SecurityModeOfPinLaw", "rank", "(Lcom/example/pubframe/pubframe/message/SecurityMode;)I"⟩ : MethodName)) (hw _ (List.mem_of_getElem? (i := 47) rfl)) (hw _ (List.mem_of_getElem? (i := 48) rfl)) (hw _ (List.mem_of_getElem? (i := 49) rfl)) (hw _ (List.mem_of_getElem? (i := 50) rfl)) (by decide) (argsL := [(.ref w_NONE)]) (rm5_NONE l Z a0 hw [] w_NONE h18 w_SIGN w_SIGN_AND_ENCRYPT (S_NONE.ext EX18) (S_SIGN.ext EX18) (S_SIGN_AND_ENCRYPT.ext EX18) ne_SN ne_EN ne_ES) (rest := [(.int (2 : Int32))]) (by rw [hml]; rfl) pd__Lcom_example_pubframe_pubframe_message_SecurityMode__I rfl (W := 1) (Nat.le_of_eq rfl) (by decide) (by decide) (by decide) (by decide) rfl (hb hby at_191) (q := 194) rfl ?_
      intro T27 v27 L27 X27 hQ27
      obtain ⟨X27, e27, ev27⟩ := EKit.pureK X27 hQ27
      subst ev27
      show EKit.EndsW p l e room_1 s m #[(.int p0), (.int p1)] below meth c room_1.cells room_1.slots (fun v h L => v = some (.int (1 : Int32)) ∧ Fr h0.size L) T27 (mkF m 194 #[.val (.int p0), .val (.int p1), .val (.int (0 : Int32)), .val (.int (0 : Int32)), .val (.ref b1), .val (.ref b10), .val (.int ((0 : Int32) + (0 : Int32))), .val (.ref w_NONE), .val (.ref w_SIGN), .val (.ref w_SIGN_AND_ENCRYPT)] [(.int (0 : Int32)), (.int (2 : Int32))])
      have h194 : ¬ ((2 : Int32) < (0 : Int32)) := by decide
      refine EKit.icmpNo X27 hx ((flt h194).1) (hb hby at_194) (q := 197) rfl ?_
      refine EKit.aload X27 hx rfl rfl (hb hby at_197) (q := 199) rfl ?_
      refine EKit.callS X27 hx hZ hown e27 (y := (⟨"com/example/pubframe/pubframe/message/SecurityModeOfPinLaw", "rank", "(Lcom/example/pubframe/pubframe/message/SecurityMode;)I"⟩ : MethodName)) (hw _ (List.mem_of_getElem? (i := 47) rfl)) (hw _ (List.mem_of_getElem? (i := 48) rfl)) (hw _ (List.mem_of_getElem? (i := 49) rfl)) (hw _ (List.mem_of_getElem? (i := 50) rfl)) (by decide) (argsL := [(.ref w_NONE)]) (rm5_NONE l Z a0 hw [] w_NONE h18 w_SIGN w_SIGN_AND_ENCRYPT (S_NONE.ext EX18) (S_SIGN.ext EX18) (S_SIGN_AND_ENCRYPT.ext EX18) ne_SN ne_EN ne_ES) (rest := []) (by rw [hml]; rfl) pd__Lcom_example_pubframe_pubframe_message_SecurityMode__I rfl (W := 0) (Nat.le_of_eq rfl) (by decide) (by decide) (by decide) (by decide) rfl (hb hby at_199) (q := 202) rfl ?_
      intro T28 v28 L28 X28 hQ28
      obtain ⟨X28, e28, ev28⟩ := EKit.pureK X28 hQ28
      subst ev28
      show EKit.EndsW p l e room_1 s m #[(.int p0), (.int p1)] below meth c room_1.cells room_1.slots (fun v h L => v = some (.int (1 : Int32)) ∧ Fr h0.size L) T28 (mkF m 202 #[.val (.int p0), .val (.int p1), .val (.int (0 : Int32)), .val (.int (0 : Int32)), .val (.ref b1), .val (.ref b10), .val (.int ((0 : Int32) + (0 : Int32))), .val (.ref w_NONE), .val (.ref w_SIGN), .val (.ref w_SIGN_AND_ENCRYPT)] [(.int (0 : Int32))])
      have h202 : ¬ ((0 : Int32) < (0 : Int32)) := by decide
      refine EKit.ifNo X28 hx (EKit.c_t (flt h202).1) (hb hby at_202) (q := 205) rfl ?_
      refine EKit.iconst X28 hx (v := (1 : Int32)) rfl (hb hby at_205) (q := 206) rfl ?_
      refine EKit.goto X28 hx (hb hby at_206) (by decide) (q := 210) (by decide) ?_
      exact EKit.toW hS6 (EKit.retZ X28 hx hret (by simp) (hb hby at_210) (⟨⟨rfl, Fr.nil _⟩, by rw [e28]; exact fI_sz_18⟩) (by decide) (by decide))
    · skip
      refine EKit.ifNo X0 hx (EKit.c_t (feq h15).1) (hb hby at_15) (q := 18) rfl ?_
      refine EKit.iconst X0 hx (v := (1 : Int32)) rfl (hb hby at_18) (q := 19) rfl ?_
      refine EKit.goto X0 hx (hb hby at_19) (by decide) (q := 23) (by decide) ?_
      refine EKit.istoreN X0 hx (l' := #[.val (.int p0), .val (.int p1), .val (.int (0 : Int32)), .val (.int (1 : Int32)), .unset, .unset, .unset, .unset, .unset, .unset]) rfl (hb hby at_23) (q := 24) rfl ?_
      refine EKit.iconst X0 hx (v := (4 : Int32)) rfl (hb hby at_24) (q := 25) rfl ?_
      refine EKit.newref X0 hx hZ hown e0 (hw _ (List.mem_of_getElem? (i := 0) rfl)) (hw _ (List.mem_of_getElem? (i := 1) rfl)) (by decide) (cap := 4) (by decide) (by decide) (by decide) (by decide) (hb hby at_25) (q := 28) rfl ?_
      intro T29 h29 b29 k29 X29 e29 E29 g29 O29 V29
      have V29 : Ary Z h29 b29 k29 (.object "java/lang/String") (4 : Int32) (fun _ => .null) := V29
      have gn_b29 : h0.size ≤ b29 := Nat.le_trans (Nat.le_refl _) (Nat.le_of_eq g29.symm)
      have sz29 : h0.size ≤ h29.size := Nat.le_trans (Nat.le_refl _) E29.1
      have EX29 := E29
      show EKit.EndsW p l e room_1 s m #[(.int p0), (.int p1)] below meth c room_1.cells room_1.slots (fun v h L => v = some (.int (1 : Int32)) ∧ Fr h0.size L) T29 (mkF m 28 #[.val (.int p0), .val (.int p1), .val (.int (0 : Int32)), .val (.int (1 : Int32)), .unset, .unset, .unset, .unset, .unset, .unset] [(.ref b29)])
      refine EKit.dup X29 hx rfl (hb hby at_28) (q := 29) rfl ?_
      refine EKit.iconst X29 hx (v := (0 : Int32)) rfl (hb hby at_29) (q := 30) rfl ?_
      obtain ⟨b30, T30, h30, kq30, c30, kb30, X30, e30, E30, hS30, hk30, hZ, hown, A30, Fc30, Fv30, Vb30, lt30, ltc30, I30, Li30, st30⟩ := ldcSVL (s := s) (vm0 := s.vm) X29 hx hZ hown (hw _ (List.mem_of_getElem? (i := 2) rfl)) own_sa e29 (State.WarmedH.since (State.WarmedH.refl s) 0) (Nat.zero_le _) (Fr.nil _) (fun _ _ q => by rw [hhz]; exact q) own_I (by decide) hh_NONE hcw (vs := [.int (78 : Int32), .int (111 : Int32), .int (110 : Int32), .int (101 : Int32)]) (z := (4 : Int32)) ⟨by decide, by decide +kernel⟩ (by decide) rfl (g := (mkF m 30 #[.val (.int p0), .val (.int p1), .val (.int (0 : Int32)), .val (.int (1 : Int32)), .unset, .unset, .unset, .unset, .unset, .unset] [(.int (0 : Int32)), (.ref b29), (.ref b29)])) rfl (hb hby at_30) (n := 16) (by decide) (by decide) (by decide) (by decide)
      have hs0 : (s.setVm T30.vm).heap = h0 := hs0
      have sz30 : h0.size ≤ h30.size := Nat.le_trans sz29 E30.1
      have fV_b29_30 := V29.ext E30
      have V30 : Ary Z h30 c30 kb30 .byte (4 : Int32) (fun j => .int (own_tN j)) := EKit.Ary.ofArv Vb30 (own_at_own_tN)
      have ne_b30_b29 : b30 ≠ b29 := EKit.Exa.ne_ary A30 (hw _ (List.mem_of_getElem? (i := 4) rfl)) fV_b29_30
      have ne_c30_b29 : c30 ≠ b29 := EKit.Ary.ne_ty V30 fV_b29_30 (by decide)
      have zz30 : EKit.Sz kq30 h30 := hk30
      have EX30 := EKit.Ext_trans EX29 E30
      refine EKit.step st30 ?_
      show EKit.EndsW p l e room_1 s m #[(.int p0), (.int p1)] below meth c room_1.cells room_1.slots (fun v h L => v = some (.int (1 : Int32)) ∧ Fr h0.size L) T30 (mkF m 32 #[.val (.int p0), .val (.int p1), .val (.int (0 : Int32)), .val (.int (1 : Int32)), .unset, .unset, .unset, .unset, .unset, .unset] [(.ref b30), (.int (0 : Int32)), (.ref b29), (.ref b29)])
      refine EKit.aastore X30 hx hZ e30 fV_b29_30 O29 (Ins.self A30) (by decide) (by decide) (hb hby at_32) (q := 33) rfl ?_
      intro T31 h31 X31 e31 W31 V31
      have X31 := Stand.forget X31 (fun y hy => by cases List.mem_singleton.mp hy; rw [hs0]; exact gn_b29)
      have sz31 : h0.size ≤ h31.size := Nat.le_trans sz30 (Keep.of_wr W31).1
      have fE_b30_31 := A30.wr W31
      have fF_b30_coder_31 := Fc30.other W31 (Or.inl (ne_b30_b29))
      have fF_b30_value_31 := Fv30.other W31 (Or.inl (ne_b30_b29))
      have fV_c30_31 := V30.other W31 (ne_c30_b29)
      have fI_sz_31 := zz30.wr W31
      have EX31 := EKit.Ext_wr EX30 W31 gn_b29
      refine EKit.dup X31 hx rfl (hb hby at_33) (q := 34) rfl ?_
      refine EKit.iconst X31 hx (v := (1 : Int32)) rfl (hb hby at_34) (q := 35) rfl ?_
      obtain ⟨b32, T32, h32, kq32, c32, kb32, X32, e32, E32, hS32, hk32, hZ, hown, A32, Fc32, Fv32, Vb32, lt32, ltc32, I32, Li32, st32⟩ := ldcSVL (s := s) (vm0 := T30.vm) X31 hx hZ hown (hw _ (List.mem_of_getElem? (i := 11) rfl)) own_sa e31 hS30 fI_sz_31 (Fr.nil _) (fun _ _ q => by rw [hhz]; exact q) I30 (by decide) hh_SIGN hcw (vs := [.int (83 : Int32), .int (105 : Int32), .int (103 : Int32), .int (110 : Int32)]) (z := (4 : Int32)) ⟨by decide, by decide +kernel⟩ (by decide) rfl (g := (mkF m 35 #[.val (.int p0), .val (.int p1), .val (.int (0 : Int32)), .val (.int (1 : Int32)), .unset, .unset, .unset, .unset, .unset, .unset] [(.int (1 : Int32)), (.ref b29), (.ref b29)])) rfl (hb hby at_35) (n := 16) (by decide) (by decide) (by decide) (by decide)
      have hs0 : (s.setVm T32.vm).heap = h0 := hs0
      have sz32 : h0.size ≤ h32.size := Nat.le_trans sz31 E32.1
      have fV_b29_32 := V31.ext E32
      have fE_b30_32 := fE_b30_31.ext E32
      have fF_b30_coder_32 := fF_b30_coder_31.ext E32
      have fF_b30_value_32 := fF_b30_value_31.ext E32
      have fV_c30_32 := fV_c30_31.ext E32
      have fI_sz_32 := fI_sz_31.ext E32
      have V32 : Ary Z h32 c32 kb32 .byte (4 : Int32) (fun j => .int (own_tS j)) := EKit.Ary.ofArv Vb32 (own_at_own_tS)
      have ne_b32_b29 : b32 ≠ b29 := EKit.Exa.ne_ary A32 (hw _ (List.mem_of_getElem? (i := 4) rfl)) fV_b29_32
      have ne_c32_b29 : c32 ≠ b29 := EKit.Ary.ne_ty V32 fV_b29_32 (by decide)
      have zz32 : EKit.Sz kq32 h32 := hk32
      have EX32 := EKit.Ext_trans EX31 E32
      refine EKit.step st32 ?_
      show EKit.EndsW p l e room_1 s m #[(.int p0), (.int p1)] below meth c room_1.cells room_1.slots (fun v h L => v = some (.int (1 : Int32)) ∧ Fr h0.size L) T32 (mkF m 37 #[.val (.int p0), .val (.int p1), .val (.int (0 : Int32)), .val (.int (1 : Int32)), .unset, .unset, .unset, .unset, .unset, .unset] [(.ref b32), (.int (1 : Int32)), (.ref b29), (.ref b29)])
      refine EKit.aastore X32 hx hZ e32 fV_b29_32 O29 (Ins.self A32) (by decide) (by decide) (hb hby at_37) (q := 38) rfl ?_
      intro T33 h33 X33 e33 W33 V33
      have X33 := Stand.forget X33 (fun y hy => by cases List.mem_singleton.mp hy; rw [hs0]; exact gn_b29)
      have sz33 : h0.size ≤ h33.size := Nat.le_trans sz32 (Keep.of_wr W33).1
      have fE_b30_33 := fE_b30_32.wr W33
      have fF_b30_coder_33 := fF_b30_coder_32.other W33 (Or.inl (ne_b30_b29))
      have fF_b30_value_33 := fF_b30_value_32.other W33 (Or.inl (ne_b30_b29))
      have fV_c30_33 := fV_c30_32.other W33 (ne_c30_b29)
      have fE_b32_33 := A32.wr W33
      have fF_b32_coder_33 := Fc32.other W33 (Or.inl (ne_b32_b29))
      have fF_b32_value_33 := Fv32.other W33 (Or.inl (ne_b32_b29))
      have fV_c32_33 := V32.other W33 (ne_c32_b29)
      have fI_sz_33 := zz32.wr W33
      have EX33 := EKit.Ext_wr EX32 W33 gn_b29
      refine EKit.dup X33 hx rfl (hb hby at_38) (q := 39) rfl ?_
      refine EKit.iconst X33 hx (v := (2 : Int32)) rfl (hb hby at_39) (q := 40) rfl ?_
      obtain ⟨b34, T34, h34, kq34, c34, kb34, X34, e34, E34, hS34, hk34, hZ, hown, A34, Fc34, Fv34, Vb34, lt34, ltc34, I34, Li34, st34⟩ := ldcSVL (s := s) (vm0 := T32.vm) X33 hx hZ hown (hw _ (List.mem_of_getElem? (i := 12) rfl)) own_sa e33 hS32 fI_sz_33 (Fr.nil _) (fun _ _ q => by rw [hhz]; exact q) I32 (by decide) hh_SIGN_AND_ENCRYPT hcw (vs := [.int (83 : Int32), .int (105 : Int32), .int (103 : Int32), .int (110 : Int32), .int (65 : Int32), .int (110 : Int32), .int (100 : Int32), .int (69 : Int32), .int (110 : Int32), .int (99 : Int32), .int (114 : Int32), .int (121 : Int32), .int (112 : Int32), .int (116 : Int32)]) (z := (14 : Int32)) ⟨by decide, by decide +kernel⟩ (by decide) rfl (g := (mkF m 40 #[.val (.int p0), .val (.int p1), .val (.int (0 : Int32)), .val (.int (1 : Int32)), .unset, .unset, .unset, .unset, .unset, .unset] [(.int (2 : Int32)), (.ref b29), (.ref b29)])) rfl (hb hby at_40) (n := 56) (by decide) (by decide) (by decide) (by decide)
      have hs0 : (s.setVm T34.vm).heap = h0 := hs0
      have sz34 : h0.size ≤ h34.size := Nat.le_trans sz33 E34.1
      have fV_b29_34 := V33.ext E34
      have fE_b30_34 := fE_b30_33.ext E34
      have fF_b30_coder_34 := fF_b30_coder_33.ext E34
      have fF_b30_value_34 := fF_b30_value_33.ext E34
      have fV_c30_34 := fV_c30_33.ext E34
      have fE_b32_34 := fE_b32_33.ext E34
      have fF_b32_coder_34 := fF_b32_coder_33.ext E34
      have fF_b32_value_34 := fF_b32_value_33.ext E34
      have fV_c32_34 := fV_c32_33.ext E34
      have fI_sz_34 := fI_sz_33.ext E34
      have V34 : Ary Z h34 c34 kb34 .byte (14 : Int32) (fun j => .int (own_tE j)) := EKit.Ary.ofArv Vb34 (own_at_own_tE)
      have ne_b34_b29 : b34 ≠ b29 := EKit.Exa.ne_ary A34 (hw _ (List.mem_of_getElem? (i := 4) rfl)) fV_b29_34
      have ne_c34_b29 : c34 ≠ b29 := EKit.Ary.ne_ty V34 fV_b29_34 (by decide)
      have zz34 : EKit.Sz kq34 h34 := hk34
      have EX34 := EKit.Ext_trans EX33 E34
      refine EKit.step st34 ?_
      show EKit.EndsW p l e room_1 s m #[(.int p0), (.int p1)] below meth c room_1.cells room_1.slots (fun v h L => v = some (.int (1 : Int32)) ∧ Fr h0.size L) T34 (mkF m 42 #[.val (.int p0), .val (.int p1), .val (.int (0 : Int32)), .val (.int (1 : Int32)), .unset, .unset, .unset, .unset, .unset, .unset] [(.ref b34), (.int (2 : Int32)), (.ref b29), (.ref b29)])
      refine EKit.aastore X34 hx hZ e34 fV_b29_34 O29 (Ins.self A34) (by decide) (by decide) (hb hby at_42) (q := 43) rfl ?_
      intro T35 h35 X35 e35 W35 V35
      have X35 := Stand.forget X35 (fun y hy => by cases List.mem_singleton.mp hy; rw [hs0]; exact gn_b29)
      have sz35 : h0.size ≤ h35.size := Nat.le_trans sz34 (Keep.of_wr W35).1
      have fE_b30_35 := fE_b30_34.wr W35
      have fF_b30_coder_35 := fF_b30_coder_34.other W35 (Or.inl (ne_b30_b29))
      have fF_b30_value_35 := fF_b30_value_34.other W35 (Or.inl (ne_b30_b29))
      have fV_c30_35 := fV_c30_34.other W35 (ne_c30_b29)
      have fE_b32_35 := fE_b32_34.wr W35
      have fF_b32_coder_35 := fF_b32_coder_34.other W35 (Or.inl (ne_b32_b29))
      have fF_b32_value_35 := fF_b32_value_34.other W35 (Or.inl (ne_b32_b29))
      have fV_c32_35 := fV_c32_34.other W35 (ne_c32_b29)
      have fE_b34_35 := A34.wr W35
      have fF_b34_coder_35 := Fc34.other W35 (Or.inl (ne_b34_b29))
      have fF_b34_value_35 := Fv34.other W35 (Or.inl (ne_b34_b29))
      have fV_c34_35 := V34.other W35 (ne_c34_b29)
      have fI_sz_35 := zz34.wr W35
      have EX35 := EKit.Ext_wr EX34 W35 gn_b29
      refine EKit.dup X35 hx rfl (hb hby at_43) (q := 44) rfl ?_
      refine EKit.iconst X35 hx (v := (3 : Int32)) rfl (hb hby at_44) (q := 45) rfl ?_
      refine EKit.step (ldcAgain (s := s) (vm0 := T34.vm) X35 hx hZ hown (hw _ (List.mem_of_getElem? (i := 12) rfl)) Li34 (g := (mkF m 45 #[.val (.int p0), .val (.int p1), .val (.int (0 : Int32)), .val (.int (1 : Int32)), .unset, .unset, .unset, .unset, .unset, .unset] [(.int (3 : Int32)), (.ref b29), (.ref b29)])) rfl (hb hby at_45)) ?_
      show EKit.EndsW p l e room_1 s m #[(.int p0), (.int p1)] below meth c room_1.cells room_1.slots (fun v h L => v = some (.int (1 : Int32)) ∧ Fr h0.size L) T35 (mkF m 47 #[.val (.int p0), .val (.int p1), .val (.int (0 : Int32)), .val (.int (1 : Int32)), .unset, .unset, .unset, .unset, .unset, .unset] [(.ref b34), (.int (3 : Int32)), (.ref b29), (.ref b29)])
      refine EKit.aastore X35 hx hZ e35 V35 O29 (Ins.self fE_b34_35) (by decide) (by decide) (hb hby at_47) (q := 48) rfl ?_
      intro T37 h37 X37 e37 W37 V37
      have X37 := Stand.forget X37 (fun y hy => by cases List.mem_singleton.mp hy; rw [hs0]; exact gn_b29)
      have sz37 : h0.size ≤ h37.size := Nat.le_trans sz35 (Keep.of_wr W37).1
      have fE_b30_37 := fE_b30_35.wr W37
      have fF_b30_coder_37 := fF_b30_coder_35.other W37 (Or.inl (ne_b30_b29))
      have fF_b30_value_37 := fF_b30_value_35.other W37 (Or.inl (ne_b30_b29))
      have fV_c30_37 := fV_c30_35.other W37 (ne_c30_b29)
      have fE_b32_37 := fE_b32_35.wr W37
      have fF_b32_coder_37 := fF_b32_coder_35.other W37 (Or.inl (ne_b32_b29))
      have fF_b32_value_37 := fF_b32_value_35.other W37 (Or.inl (ne_b32_b29))
      have fV_c32_37 := fV_c32_35.other W37 (ne_c32_b29)
      have fE_b34_37 := fE_b34_35.wr W37
      have fF_b34_coder_37 := fF_b34_coder_35.other W37 (Or.inl (ne_b34_b29))
      have fF_b34_value_37 := fF_b34_value_35.other W37 (Or.inl (ne_b34_b29))
      have fV_c34_37 := fV_c34_35.other W37 (ne_c34_b29)
      have fI_sz_37 := fI_sz_35.wr W37
      have EX37 := EKit.Ext_wr EX35 W37 gn_b29
      refine EKit.astore X37 hx rfl (l' := #[.val (.int p0), .val (.int p1), .val (.int (0 : Int32)), .val (.int (1 : Int32)), .val (.ref b29), .unset, .unset, .unset, .unset, .unset]) rfl (hb hby at_48) (q := 50) rfl ?_
      refine EKit.iconst X37 hx (v := (4 : Int32)) rfl (hb hby at_50) (q := 51) rfl ?_
      refine EKit.newref X37 hx hZ hown e37 (hw _ (List.mem_of_getElem? (i := 13) rfl)) (hw _ (List.mem_of_getElem? (i := 14) rfl)) (by decide) (cap := 4) (by decide) (by decide) (by decide) (by decide) (hb hby at_51) (q := 54) rfl ?_
      intro T38 h38 b38 k38 X38 e38 E38 g38 O38 V38
      have V38 : Ary Z h38 b38 k38 (.object "com/example/pubframe/pubframe/message/SecurityMode") (4 : Int32) (fun _ => .null) := V38
      have gn_b38 : h0.size ≤ b38 := Nat.le_trans sz37 (Nat.le_of_eq g38.symm)
      have sz38 : h0.size ≤ h38.size := Nat.le_trans sz37 E38.1
      have ne_b29_b38 : b29 ≠ b38 := Nat.ne_of_lt (Nat.lt_of_lt_of_le (V37).lt (Nat.le_of_eq g38.symm))
      have ne_b38_b29 : b38 ≠ b29 := Ne.symm ne_b29_b38
      have ne_b30_b38 : b30 ≠ b38 := Nat.ne_of_lt (Nat.lt_of_lt_of_le (fE_b30_37).lt (Nat.le_of_eq g38.symm))
      have ne_b38_b30 : b38 ≠ b30 := Ne.symm ne_b30_b38
      have ne_c30_b38 : c30 ≠ b38 := Nat.ne_of_lt (Nat.lt_of_lt_of_le (fV_c30_37).lt (Nat.le_of_eq g38.symm))
      have ne_b38_c30 : b38 ≠ c30 := Ne.symm ne_c30_b38
      have ne_b32_b38 : b32 ≠ b38 := Nat.ne_of_lt (Nat.lt_of_lt_of_le (fE_b32_37).lt (Nat.le_of_eq g38.symm))
      have ne_b38_b32 : b38 ≠ b32 := Ne.symm ne_b32_b38
      have ne_c32_b38 : c32 ≠ b38 := Nat.ne_of_lt (Nat.lt_of_lt_of_le (fV_c32_37).lt (Nat.le_of_eq g38.symm))
      have ne_b38_c32 : b38 ≠ c32 := Ne.symm ne_c32_b38
      have ne_b34_b38 : b34 ≠ b38 := Nat.ne_of_lt (Nat.lt_of_lt_of_le (fE_b34_37).lt (Nat.le_of_eq g38.symm))
      have ne_b38_b34 : b38 ≠ b34 := Ne.symm ne_b34_b38
      have ne_c34_b38 : c34 ≠ b38 := Nat.ne_of_lt (Nat.lt_of_lt_of_le (fV_c34_37).lt (Nat.le_of_eq g38.symm))
      have ne_b38_c34 : b38 ≠ c34 := Ne.symm ne_c34_b38
      have fV_b29_38 := V37.ext E38
      have fE_b30_38 := fE_b30_37.ext E38
      have fF_b30_coder_38 := fF_b30_coder_37.ext E38
      have fF_b30_value_38 := fF_b30_value_37.ext E38
      have fV_c30_38 := fV_c30_37.ext E38
      have fE_b32_38 := fE_b32_37.ext E38
      have fF_b32_coder_38 := fF_b32_coder_37.ext E38
      have fF_b32_value_38 := fF_b32_value_37.ext E38
      have fV_c32_38 := fV_c32_37.ext E38
      have fE_b34_38 := fE_b34_37.ext E38
      have fF_b34_coder_38 := fF_b34_coder_37.ext E38
      have fF_b34_value_38 := fF_b34_value_37.ext E38
      have fV_c34_38 := fV_c34_37.ext E38
      have fI_sz_38 := fI_sz_37.ext E38
      have EX38 := EKit.Ext_trans EX37 E38
      show EKit.EndsW p l e room_1 s m #[(.int p0), (.int p1)] below meth c room_1.cells room_1.slots (fun v h L => v = some (.int (1 : Int32)) ∧ Fr h0.size L) T38 (mkF m 54 #[.val (.int p0), .val (.int p1), .val (.int (0 : Int32)), .val (.int (1 : Int32)), .val (.ref b29), .unset, .unset, .unset, .unset, .unset] [(.ref b38)])
      refine EKit.dup X38 hx rfl (hb hby at_54) (q := 55) rfl ?_
      refine EKit.iconst X38 hx (v := (0 : Int32)) rfl (hb hby at_55) (q := 56) rfl ?_
      obtain ⟨T39, X39, e39, st39⟩ := getS X38 hx hZ (host := "") hown (hw _ (List.mem_of_getElem? (i := 15) rfl)) Via.refl e38 (S_NONE.ext EX38) (g := (mkF m 56 #[.val (.int p0), .val (.int p1), .val (.int (0 : Int32)), .val (.int (1 : Int32)), .val (.ref b29), .unset, .unset, .unset, .unset, .unset] [(.int (0 : Int32)), (.ref b38), (.ref b38)])) rfl (hb hby at_56)
      refine EKit.step st39 ?_
      show EKit.EndsW p l e room_1 s m #[(.int p0), (.int p1)] below meth c room_1.cells room_1.slots (fun v h L => v = some (.int (1 : Int32)) ∧ Fr h0.size L) T39 (mkF m 59 #[.val (.int p0), .val (.int p1), .val (.int (0 : Int32)), .val (.int (1 : Int32)), .val (.ref b29), .unset, .unset, .unset, .unset, .unset] [(.ref w_NONE), (.int (0 : Int32)), (.ref b38), (.ref b38)])
      refine EKit.aastore X39 hx hZ e39 V38 O38 (Ins.self (E_NONE.ext EX38)) (by decide) (by decide) (hb hby at_59) (q := 60) rfl ?_
      intro T40 h40 X40 e40 W40 V40
      have X40 := Stand.forget X40 (fun y hy => by cases List.mem_singleton.mp hy; rw [hs0]; exact gn_b38)
      have sz40 : h0.size ≤ h40.size := Nat.le_trans sz38 (Keep.of_wr W40).1
      have fV_b29_40 := fV_b29_38.other W40 (ne_b29_b38)
      have fE_b30_40 := fE_b30_38.wr W40
      have fF_b30_coder_40 := fF_b30_coder_38.other W40 (Or.inl (ne_b30_b38))
      have fF_b30_value_40 := fF_b30_value_38.other W40 (Or.inl (ne_b30_b38))
      have fV_c30_40 := fV_c30_38.other W40 (ne_c30_b38)
      have fE_b32_40 := fE_b32_38.wr W40
      have fF_b32_coder_40 := fF_b32_coder_38.other W40 (Or.inl (ne_b32_b38))
      have fF_b32_value_40 := fF_b32_value_38.other W40 (Or.inl (ne_b32_b38))
      have fV_c32_40 := fV_c32_38.other W40 (ne_c32_b38)
      have fE_b34_40 := fE_b34_38.wr W40
      have fF_b34_coder_40 := fF_b34_coder_38.other W40 (Or.inl (ne_b34_b38))
      have fF_b34_value_40 := fF_b34_value_38.other W40 (Or.inl (ne_b34_b38))
      have fV_c34_40 := fV_c34_38.other W40 (ne_c34_b38)
      have fI_sz_40 := fI_sz_38.wr W40
      have EX40 := EKit.Ext_wr EX38 W40 gn_b38
      refine EKit.dup X40 hx rfl (hb hby at_60) (q := 61) rfl ?_
      refine EKit.iconst X40 hx (v := (1 : Int32)) rfl (hb hby at_61) (q := 62) rfl ?_
      obtain ⟨T41, X41, e41, st41⟩ := getS X40 hx hZ (host := "") hown (hw _ (List.mem_of_getElem? (i := 19) rfl)) Via.refl e40 (S_SIGN.ext EX40) (g := (mkF m 62 #[.val (.int p0), .val (.int p1), .val (.int (0 : Int32)), .val (.int (1 : Int32)), .val (.ref b29), .unset, .unset, .unset, .unset, .unset] [(.int (1 : Int32)), (.ref b38), (.ref b38)])) rfl (hb hby at_62)
      refine EKit.step st41 ?_
      show EKit.EndsW p l e room_1 s m #[(.int p0), (.int p1)] below meth c room_1.cells room_1.slots (fun v h L => v = some (.int (1 : Int32)) ∧ Fr h0.size L) T41 (mkF m 65 #[.val (.int p0), .val (.int p1), .val (.int (0 : Int32)), .val (.int (1 : Int32)), .val (.ref b29), .unset, .unset, .unset, .unset, .unset] [(.ref w_SIGN), (.int (1 : Int32)), (.ref b38), (.ref b38)])
      refine EKit.aastore X41 hx hZ e41 V40 O38 (Ins.self (E_SIGN.ext EX40)) (by decide) (by decide) (hb hby at_65) (q := 66) rfl ?_
      intro T42 h42 X42 e42 W42 V42
      have X42 := Stand.forget X42 (fun y hy => by cases List.mem_singleton.mp hy; rw [hs0]; exact gn_b38)
      have sz42 : h0.size ≤ h42.size := Nat.le_trans sz40 (Keep.of_wr W42).1
      have fV_b29_42 := fV_b29_40.other W42 (ne_b29_b38)
      have fE_b30_42 := fE_b30_40.wr W42
      have fF_b30_coder_42 := fF_b30_coder_40.other W42 (Or.inl (ne_b30_b38))
      have fF_b30_value_42 := fF_b30_value_40.other W42 (Or.inl (ne_b30_b38))
      have fV_c30_42 := fV_c30_40.other W42 (ne_c30_b38)
      have fE_b32_42 := fE_b32_40.wr W42
      have fF_b32_coder_42 := fF_b32_coder_40.other W42 (Or.inl (ne_b32_b38))
      have fF_b32_value_42 := fF_b32_value_40.other W42 (Or.inl (ne_b32_b38))
      have fV_c32_42 := fV_c32_40.other W42 (ne_c32_b38)
      have fE_b34_42 := fE_b34_40.wr W42
      have fF_b34_coder_42 := fF_b34_coder_40.other W42 (Or.inl (ne_b34_b38))
      have fF_b34_value_42 := fF_b34_value_40.other W42 (Or.inl (ne_b34_b38))
      have fV_c34_42 := fV_c34_40.other W42 (ne_c34_b38)
      have fI_sz_42 := fI_sz_40.wr W42
      have EX42 := EKit.Ext_wr EX40 W42 gn_b38
      refine EKit.dup X42 hx rfl (hb hby at_66) (q := 67) rfl ?_
      refine EKit.iconst X42 hx (v := (2 : Int32)) rfl (hb hby at_67) (q := 68) rfl ?_
      obtain ⟨T43, X43, e43, st43⟩ := getS X42 hx hZ (host := "") hown (hw _ (List.mem_of_getElem? (i := 21) rfl)) Via.refl e42 (S_SIGN_AND_ENCRYPT.ext EX42) (g := (mkF m 68 #[.val (.int p0), .val (.int p1), .val (.int (0 : Int32)), .val (.int (1 : Int32)), .val (.ref b29), .unset, .unset, .unset, .unset, .unset] [(.int (2 : Int32)), (.ref b38), (.ref b38)])) rfl (hb hby at_68)
      refine EKit.step st43 ?_
      show EKit.EndsW p l e room_1 s m #[(.int p0), (.int p1)] below meth c room_1.cells room_1.slots (fun v h L => v = some (.int (1 : Int32)) ∧ Fr h0.size L) T43 (mkF m 71 #[.val (.int p0), .val (.int p1), .val (.int (0 : Int32)), .val (.int (1 : Int32)), .val (.ref b29), .unset, .unset, .unset, .unset, .unset] [(.ref w_SIGN_AND_ENCRYPT), (.int (2 : Int32)), (.ref b38), (.ref b38)])
      refine EKit.aastore X43 hx hZ e43 V42 O38 (Ins.self (E_SIGN_AND_ENCRYPT.ext EX42)) (by decide) (by decide) (hb hby at_71) (q := 72) rfl ?_
      intro T44 h44 X44 e44 W44 V44
      have X44 := Stand.forget X44 (fun y hy => by cases List.mem_singleton.mp hy; rw [hs0]; exact gn_b38)
      have sz44 : h0.size ≤ h44.size := Nat.le_trans sz42 (Keep.of_wr W44).1
      have fV_b29_44 := fV_b29_42.other W44 (ne_b29_b38)
      have fE_b30_44 := fE_b30_42.wr W44
      have fF_b30_coder_44 := fF_b30_coder_42.other W44 (Or.inl (ne_b30_b38))
      have fF_b30_value_44 := fF_b30_value_42.other W44 (Or.inl (ne_b30_b38))
      have fV_c30_44 := fV_c30_42.other W44 (ne_c30_b38)
      have fE_b32_44 := fE_b32_42.wr W44
      have fF_b32_coder_44 := fF_b32_coder_42.other W44 (Or.inl (ne_b32_b38))
      have fF_b32_value_44 := fF_b32_value_42.other W44 (Or.inl (ne_b32_b38))
      have fV_c32_44 := fV_c32_42.other W44 (ne_c32_b38)
      have fE_b34_44 := fE_b34_42.wr W44
      have fF_b34_coder_44 := fF_b34_coder_42.other W44 (Or.inl (ne_b34_b38))
      have fF_b34_value_44 := fF_b34_value_42.other W44 (Or.inl (ne_b34_b38))
      have fV_c34_44 := fV_c34_42.other W44 (ne_c34_b38)
      have fI_sz_44 := fI_sz_42.wr W44
      have EX44 := EKit.Ext_wr EX42 W44 gn_b38
      refine EKit.dup X44 hx rfl (hb hby at_72) (q := 73) rfl ?_
      refine EKit.iconst X44 hx (v := (3 : Int32)) rfl (hb hby at_73) (q := 74) rfl ?_
      obtain ⟨T45, X45, e45, st45⟩ := getS X44 hx hZ (host := "") hown (hw _ (List.mem_of_getElem? (i := 21) rfl)) Via.refl e44 (S_SIGN_AND_ENCRYPT.ext EX44) (g := (mkF m 74 #[.val (.int p0), .val (.int p1), .val (.int (0 : Int32)), .val (.int (1 : Int32)), .val (.ref b29), .unset, .unset, .unset, .unset, .unset] [(.int (3 : Int32)), (.ref b38), (.ref b38)])) rfl (hb hby at_74)
      refine EKit.step st45 ?_
      show EKit.EndsW p l e room_1 s m #[(.int p0), (.int p1)] below meth c room_1.cells room_1.slots (fun v h L => v = some (.int (1 : Int32)) ∧ Fr h0.size L) T45 (mkF m 77 #[.val (.int p0), .val (.int p1), .val (.int (0 : Int32)), .val (.int (1 : Int32)), .val (.ref b29), .unset, .unset, .unset, .unset, .unset] [(.ref w_SIGN_AND_ENCRYPT), (.int (3 : Int32)), (.ref b38), (.ref b38)])
      refine EKit.aastore X45 hx hZ e45 V44 O38 (Ins.self (E_SIGN_AND_ENCRYPT.ext EX44)) (by decide) (by decide) (hb hby at_77) (q := 78) rfl ?_
      intro T46 h46 X46 e46 W46 V46
      have X46 := Stand.forget X46 (fun y hy => by cases List.mem_singleton.mp hy; rw [hs0]; exact gn_b38)
      have sz46 : h0.size ≤ h46.size := Nat.le_trans sz44 (Keep.of_wr W46).1
      have fV_b29_46 := fV_b29_44.other W46 (ne_b29_b38)
      have fE_b30_46 := fE_b30_44.wr W46
      have fF_b30_coder_46 := fF_b30_coder_44.other W46 (Or.inl (ne_b30_b38))
      have fF_b30_value_46 := fF_b30_value_44.other W46 (Or.inl (ne_b30_b38))
      have fV_c30_46 := fV_c30_44.other W46 (ne_c30_b38)
      have fE_b32_46 := fE_b32_44.wr W46
      have fF_b32_coder_46 := fF_b32_coder_44.other W46 (Or.inl (ne_b32_b38))
      have fF_b32_value_46 := fF_b32_value_44.other W46 (Or.inl (ne_b32_b38))
      have fV_c32_46 := fV_c32_44.other W46 (ne_c32_b38)
      have fE_b34_46 := fE_b34_44.wr W46
      have fF_b34_coder_46 := fF_b34_coder_44.other W46 (Or.inl (ne_b34_b38))
      have fF_b34_value_46 := fF_b34_value_44.other W46 (Or.inl (ne_b34_b38))
      have fV_c34_46 := fV_c34_44.other W46 (ne_c34_b38)
      have fI_sz_46 := fI_sz_44.wr W46
      have EX46 := EKit.Ext_wr EX44 W46 gn_b38
      refine EKit.astore X46 hx rfl (l' := #[.val (.int p0), .val (.int p1), .val (.int (0 : Int32)), .val (.int (1 : Int32)), .val (.ref b29), .val (.ref b38), .unset, .unset, .unset, .unset]) rfl (hb hby at_78) (q := 80) rfl ?_
      refine EKit.iloadN X46 hx rfl (hb hby at_80) (q := 81) rfl ?_
      have h81 : (0 : Int32) = (0 : Int32) := by decide
      refine EKit.ifYes X46 hx (EKit.c_t (teq h81).1) (hb hby at_81) (by decide) (q := 88) (by decide) ?_
      refine EKit.iconst X46 hx (v := (0 : Int32)) rfl (hb hby at_88) (q := 89) rfl ?_
      refine EKit.iloadN X46 hx rfl (hb hby at_89) (q := 90) rfl ?_
      have h90 : ¬ ((1 : Int32) = (0 : Int32)) := by decide
      refine EKit.ifNo X46 hx (EKit.c_t (feq h90).1) (hb hby at_90) (q := 93) rfl ?_
      refine EKit.iconst X46 hx (v := (2 : Int32)) rfl (hb hby at_93) (q := 94) rfl ?_
      refine EKit.goto X46 hx (hb hby at_94) (by decide) (q := 98) (by decide) ?_
      refine EKit.iadd X46 hx  (hb hby at_98) (q := 99) rfl ?_
      refine EKit.istore X46 hx (l' := #[.val (.int p0), .val (.int p1), .val (.int (0 : Int32)), .val (.int (1 : Int32)), .val (.ref b29), .val (.ref b38), .val (.int ((0 : Int32) + (2 : Int32))), .unset, .unset, .unset]) rfl (hb hby at_99) (q := 101) rfl ?_
      refine EKit.iloadN X46 hx rfl (hb hby at_101) (q := 102) rfl ?_
      refine EKit.iloadN X46 hx rfl (hb hby at_102) (q := 103) rfl ?_
      refine EKit.callS X46 hx hZ hown e46 (y := (⟨"com/example/pubframe/pubframe/message/SecurityMode", "of", "(ZZ)Lcom/example/pubframe/pubframe/message/SecurityMode;"⟩ : MethodName)) (hw _ (List.mem_of_getElem? (i := 23) rfl)) (hw _ (List.mem_of_getElem? (i := 24) rfl)) (hw _ (List.mem_of_getElem? (i := 16) rfl)) (hw _ (List.mem_of_getElem? (i := 25) rfl)) (by decide) (argsL := [(.int (0 : Int32)), (.int (1 : Int32))]) (rm1_01 l Z a0 hw [] h46 w_NONE w_SIGN w_SIGN_AND_ENCRYPT (S_NONE.ext EX46) (S_SIGN.ext EX46) (S_SIGN_AND_ENCRYPT.ext EX46)) (rest := []) (by rw [hml]; rfl) pd__ZZ_Lcom_example_pubframe_pubframe_message_SecurityMode_ rfl (W := 0) (Nat.le_of_eq rfl) (by decide) (by decide) (by decide) (by decide) rfl (hb hby at_103) (q := 106) rfl ?_
      intro T47 v47 L47 X47 hQ47
      obtain ⟨X47, e47, ev47⟩ := EKit.pureK X47 hQ47
      subst ev47
      show EKit.EndsW p l e room_1 s m #[(.int p0), (.int p1)] below meth c room_1.cells room_1.slots (fun v h L => v = some (.int (1 : Int32)) ∧ Fr h0.size L) T47 (mkF m 106 #[.val (.int p0), .val (.int p1), .val (.int (0 : Int32)), .val (.int (1 : Int32)), .val (.ref b29), .val (.ref b38), .val (.int ((0 : Int32) + (2 : Int32))), .unset, .unset, .unset] [(.ref w_SIGN_AND_ENCRYPT)])
      refine EKit.astore X47 hx rfl (l' := #[.val (.int p0), .val (.int p1), .val (.int (0 : Int32)), .val (.int (1 : Int32)), .val (.ref b29), .val (.ref b38), .val (.int ((0 : Int32) + (2 : Int32))), .val (.ref w_SIGN_AND_ENCRYPT), .unset, .unset]) rfl (hb hby at_106) (q := 108) rfl ?_
      refine EKit.aload X47 hx rfl rfl (hb hby at_108) (q := 110) rfl ?_
      refine EKit.ifnonnullYes X47 hx (hb hby at_110) (by decide) (q := 115) (by decide) ?_
      refine EKit.aload X47 hx rfl rfl (hb hby at_115) (q := 117) rfl ?_
      refine EKit.aload X47 hx rfl rfl (hb hby at_117) (q := 119) rfl ?_
      refine EKit.iload X47 hx rfl (hb hby at_119) (q := 121) rfl ?_
      refine EKit.aaload X47 hx hZ e47 rfl V46 (by decide) (by decide) (v := (.ref w_SIGN_AND_ENCRYPT)) (by first | rfl | simp) (hb hby at_121) (q := 122) rfl ?_
      have h122 : w_SIGN_AND_ENCRYPT = w_SIGN_AND_ENCRYPT := rfl
      refine EKit.acmp X47 hx rfl rfl (same := true) (EKit.rr_t h122) (hb hby at_122) (by decide) (q := 127) (by decide) ?_
      refine EKit.aload X47 hx rfl rfl (hb hby at_127) (q := 129) rfl ?_
      refine EKit.iload X47 hx rfl (hb hby at_129) (q := 131) rfl ?_
      refine EKit.aaload X47 hx hZ e47 rfl fV_b29_46 (by decide) (by decide) (v := (.ref b34)) (by first | rfl | simp) (hb hby at_131) (q := 132) rfl ?_
      refine EKit.aload X47 hx rfl rfl (hb hby at_132) (q := 134) rfl ?_
      refine EKit.callV X47 hx hZ hown e47 (y := (⟨"com/example/pubframe/pubframe/message/SecurityMode", "specName", "()Ljava/lang/String;"⟩ : MethodName)) (z := (⟨"com/example/pubframe/pubframe/message/SecurityMode", "specName", "()Ljava/lang/String;"⟩ : MethodName)) (K := "com/example/pubframe/pubframe/message/SecurityMode") (hw _ (List.mem_of_getElem? (i := 27) rfl)) (hw _ (List.mem_of_getElem? (i := 28) rfl)) (notFace_of_selects (args := #[]) (mvT hZ (hw _ (List.mem_of_getElem? (i := 30) rfl)))) (hw _ (List.mem_of_getElem? (i := 30) rfl)) (hw _ (List.mem_of_getElem? (i := 29) rfl)) (hw _ (List.mem_of_getElem? (i := 16) rfl)) (hw _ (List.mem_of_getElem? (i := 31) rfl)) (by decide) (a := w_SIGN_AND_ENCRYPT) ((E_SIGN_AND_ENCRYPT.ext EX46)) (argsL := []) (rm2 l Z a0 hw [] w_SIGN_AND_ENCRYPT h46 sp_SIGN_AND_ENCRYPT (N_SIGN_AND_ENCRYPT.ext EX46)) (rest := [(.ref b34)]) (by rw [hml]; rfl) pd___Ljava_lang_String_ rfl (W := 1) (Nat.le_of_eq rfl) (by decide) (by decide) (by decide) (by decide) rfl (hb hby at_134) (q := 137) rfl ?_
      intro T48 v48 L48 X48 hQ48
      obtain ⟨X48, e48, ev48⟩ := EKit.pureK X48 hQ48
      subst ev48
      show EKit.EndsW p l e room_1 s m #[(.int p0), (.int p1)] below meth c room_1.cells room_1.slots (fun v h L => v = some (.int (1 : Int32)) ∧ Fr h0.size L) T48 (mkF m 137 #[.val (.int p0), .val (.int p1), .val (.int (0 : Int32)), .val (.int (1 : Int32)), .val (.ref b29), .val (.ref b38), .val (.int ((0 : Int32) + (2 : Int32))), .val (.ref w_SIGN_AND_ENCRYPT), .unset, .unset] [(.ref sp_SIGN_AND_ENCRYPT), (.ref b34)])
      refine EKit.callV X48 hx hZ hown e48 (y := (⟨"java/lang/String", "equals", "(Ljava/lang/Object;)Z"⟩ : MethodName)) (z := (⟨"java/lang/String", "equals", "(Ljava/lang/Object;)Z"⟩ : MethodName)) (K := "java/lang/String") (hw _ (List.mem_of_getElem? (i := 34) rfl)) (hw _ (List.mem_of_getElem? (i := 35) rfl)) (notFace_of_selects (args := #[]) (mvT hZ (hw _ (List.mem_of_getElem? (i := 37) rfl)))) (hw _ (List.mem_of_getElem? (i := 37) rfl)) (hw _ (List.mem_of_getElem? (i := 36) rfl)) (hw _ (List.mem_of_getElem? (i := 3) rfl)) (hw _ (List.mem_of_getElem? (i := 38) rfl)) (by decide) (a := b34) (fE_b34_46) (argsL := [(.ref sp_SIGN_AND_ENCRYPT)]) (rm3 l Z a0 hw [] b34 sp_SIGN_AND_ENCRYPT h46 c34 dd_SIGN_AND_ENCRYPT z_CS (S_CS.ext EX46) P_CS (14 : Int32) own_tE kb34 kk_SIGN_AND_ENCRYPT fE_b34_46 fF_b34_coder_46 fF_b34_value_46 fV_c34_46 (E_sp_SIGN_AND_ENCRYPT.ext EX46) (C_sp_SIGN_AND_ENCRYPT.ext EX46) (B_sp_SIGN_AND_ENCRYPT.ext EX46) (V_sp_SIGN_AND_ENCRYPT.ext EX46)) (rest := []) (by rw [hml]; rfl) pd__Ljava_lang_Object__Z rfl (W := 0) (Nat.le_of_eq rfl) (by decide) (by decide) (by decide) (by decide) rfl (hb hby at_137) (q := 140) rfl ?_
      intro T49 v49 L49 X49 hQ49
      obtain ⟨X49, e49, ev49⟩ := EKit.pureK X49 hQ49
      subst ev49
      show EKit.EndsW p l e room_1 s m #[(.int p0), (.int p1)] below meth c room_1.cells room_1.slots (fun v h L => v = some (.int (1 : Int32)) ∧ Fr h0.size L) T49 (mkF m 140 #[.val (.int p0), .val (.int p1), .val (.int (0 : Int32)), .val (.int (1 : Int32)), .val (.ref b29), .val (.ref b38), .val (.int ((0 : Int32) + (2 : Int32))), .val (.ref w_SIGN_AND_ENCRYPT), .unset, .unset] [(.int (1 : Int32))])
      have h140 : ¬ ((1 : Int32) = (0 : Int32)) := by decide
      refine EKit.ifYes X49 hx (EKit.c_t (feq h140).2) (hb hby at_140) (by decide) (q := 145) (by decide) ?_
      refine EKit.iconst X49 hx (v := (1 : Int32)) rfl (hb hby at_145) (q := 146) rfl ?_
      refine EKit.iloadN X49 hx rfl (hb hby at_146) (q := 147) rfl ?_
      refine EKit.callS X49 hx hZ hown e49 (y := (⟨"com/example/pubframe/pubframe/message/SecurityMode", "of", "(ZZ)Lcom/example/pubframe/pubframe/message/SecurityMode;"⟩ : MethodName)) (hw _ (List.mem_of_getElem? (i := 23) rfl)) (hw _ (List.mem_of_getElem? (i := 24) rfl)) (hw _ (List.mem_of_getElem? (i := 16) rfl)) (hw _ (List.mem_of_getElem? (i := 25) rfl)) (by decide) (argsL := [(.int (1 : Int32)), (.int (1 : Int32))]) (rm1_11 l Z a0 hw [] h46 w_NONE w_SIGN w_SIGN_AND_ENCRYPT (S_NONE.ext EX46) (S_SIGN.ext EX46) (S_SIGN_AND_ENCRYPT.ext EX46)) (rest := []) (by rw [hml]; rfl) pd__ZZ_Lcom_example_pubframe_pubframe_message_SecurityMode_ rfl (W := 0) (Nat.le_of_eq rfl) (by decide) (by decide) (by decide) (by decide) rfl (hb hby at_147) (q := 150) rfl ?_
      intro T50 v50 L50 X50 hQ50
      obtain ⟨X50, e50, ev50⟩ := EKit.pureK X50 hQ50
      subst ev50
      show EKit.EndsW p l e room_1 s m #[(.int p0), (.int p1)] below meth c room_1.cells room_1.slots (fun v h L => v = some (.int (1 : Int32)) ∧ Fr h0.size L) T50 (mkF m 150 #[.val (.int p0), .val (.int p1), .val (.int (0 : Int32)), .val (.int (1 : Int32)), .val (.ref b29), .val (.ref b38), .val (.int ((0 : Int32) + (2 : Int32))), .val (.ref w_SIGN_AND_ENCRYPT), .unset, .unset] [(.ref w_SIGN_AND_ENCRYPT)])
      refine EKit.astore X50 hx rfl (l' := #[.val (.int p0), .val (.int p1), .val (.int (0 : Int32)), .val (.int (1 : Int32)), .val (.ref b29), .val (.ref b38), .val (.int ((0 : Int32) + (2 : Int32))), .val (.ref w_SIGN_AND_ENCRYPT), .val (.ref w_SIGN_AND_ENCRYPT), .unset]) rfl (hb hby at_150) (q := 152) rfl ?_
      refine EKit.iloadN X50 hx rfl (hb hby at_152) (q := 153) rfl ?_
      refine EKit.iconst X50 hx (v := (1 : Int32)) rfl (hb hby at_153) (q := 154) rfl ?_
      refine EKit.callS X50 hx hZ hown e50 (y := (⟨"com/example/pubframe/pubframe/message/SecurityMode", "of", "(ZZ)Lcom/example/pubframe/pubframe/message/SecurityMode;"⟩ : MethodName)) (hw _ (List.mem_of_getElem? (i := 23) rfl)) (hw _ (List.mem_of_getElem? (i := 24) rfl)) (hw _ (List.mem_of_getElem? (i := 16) rfl)) (hw _ (List.mem_of_getElem? (i := 25) rfl)) (by decide) (argsL := [(.int (0 : Int32)), (.int (1 : Int32))]) (rm1_01 l Z a0 hw [] h46 w_NONE w_SIGN w_SIGN_AND_ENCRYPT (S_NONE.ext EX46) (S_SIGN.ext EX46) (S_SIGN_AND_ENCRYPT.ext EX46)) (rest := []) (by rw [hml]; rfl) pd__ZZ_Lcom_example_pubframe_pubframe_message_SecurityMode_ rfl (W := 0) (Nat.le_of_eq rfl) (by decide) (by decide) (by decide) (by decide) rfl (hb hby at_154) (q := 157) rfl ?_
      intro T51 v51 L51 X51 hQ51
      obtain ⟨X51, e51, ev51⟩ := EKit.pureK X51 hQ51
      subst ev51
      show EKit.EndsW p l e room_1 s m #[(.int p0), (.int p1)] below meth c room_1.cells room_1.slots (fun v h L => v = some (.int (1 : Int32)) ∧ Fr h0.size L) T51 (mkF m 157 #[.val (.int p0), .val (.int p1), .val (.int (0 : Int32)), .val (.int (1 : Int32)), .val (.ref b29), .val (.ref b38), .val (.int ((0 : Int32) + (2 : Int32))), .val (.ref w_SIGN_AND_ENCRYPT), .val (.ref w_SIGN_AND_ENCRYPT), .unset] [(.ref w_SIGN_AND_ENCRYPT)])
      refine EKit.astore X51 hx rfl (l' := #[.val (.int p0), .val (.int p1), .val (.int (0 : Int32)), .val (.int (1 : Int32)), .val (.ref b29), .val (.ref b38), .val (.int ((0 : Int32) + (2 : Int32))), .val (.ref w_SIGN_AND_ENCRYPT), .val (.ref w_SIGN_AND_ENCRYPT), .val (.ref w_SIGN_AND_ENCRYPT)]) rfl (hb hby at_157) (q := 159) rfl ?_
      refine EKit.aload X51 hx rfl rfl (hb hby at_159) (q := 161) rfl ?_
      refine EKit.ifnullNo X51 hx (hb hby at_161) (q := 164) rfl ?_
      refine EKit.aload X51 hx rfl rfl (hb hby at_164) (q := 166) rfl ?_
      refine EKit.ifnonnullYes X51 hx (hb hby at_166) (by decide) (q := 171) (by decide) ?_
      refine EKit.aload X51 hx rfl rfl (hb hby at_171) (q := 173) rfl ?_
      refine EKit.callS X51 hx hZ hown e51 (y := (⟨"com/example/pubframe/pubframe/message/SecurityModeOfPinLaw", "rank", "(Lcom/example/pubframe/pubframe/message/SecurityMode;)I"⟩ : MethodName)) (hw _ (List.mem_of_getElem? (i := 47) rfl)) (hw _ (List.mem_of_getElem? (i := 48) rfl)) (hw _ (List.mem_of_getElem? (i := 49) rfl)) (hw _ (List.mem_of_getElem? (i := 50) rfl)) (by decide) (argsL := [(.ref w_SIGN_AND_ENCRYPT)]) (rm5_SIGN_AND_ENCRYPT l Z a0 hw [] w_SIGN_AND_ENCRYPT h46 w_NONE w_SIGN (S_NONE.ext EX46) (S_SIGN.ext EX46) (S_SIGN_AND_ENCRYPT.ext EX46) ne_SN ne_EN ne_ES) (rest := []) (by rw [hml]; rfl) pd__Lcom_example_pubframe_pubframe_message_SecurityMode__I rfl (W := 0) (Nat.le_of_eq rfl) (by decide) (by decide) (by decide) (by decide) rfl (hb hby at_173) (q := 176) rfl ?_
      intro T52 v52 L52 X52 hQ52
      obtain ⟨X52, e52, ev52⟩ := EKit.pureK X52 hQ52
      subst ev52
      show EKit.EndsW p l e room_1 s m #[(.int p0), (.int p1)] below meth c room_1.cells room_1.slots (fun v h L => v = some (.int (1 : Int32)) ∧ Fr h0.size L) T52 (mkF m 176 #[.val (.int p0), .val (.int p1), .val (.int (0 : Int32)), .val (.int (1 : Int32)), .val (.ref b29), .val (.ref b38), .val (.int ((0 : Int32) + (2 : Int32))), .val (.ref w_SIGN_AND_ENCRYPT), .val (.ref w_SIGN_AND_ENCRYPT), .val (.ref w_SIGN_AND_ENCRYPT)] [(.int (2 : Int32))])
      refine EKit.aload X52 hx rfl rfl (hb hby at_176) (q := 178) rfl ?_
      refine EKit.callS X52 hx hZ hown e52 (y := (⟨"com/example/pubframe/pubframe/message/SecurityModeOfPinLaw", "rank", "(Lcom/example/pubframe/pubframe/message/SecurityMode;)I"⟩ : MethodName)) (hw _ (List.mem_of_getElem? (i := 47) rfl)) (hw _ (List.mem_of_getElem? (i := 48) rfl)) (hw _ (List.mem_of_getElem? (i := 49) rfl)) (hw _ (List.mem_of_getElem? (i := 50) rfl)) (by decide) (argsL := [(.ref w_SIGN_AND_ENCRYPT)]) (rm5_SIGN_AND_ENCRYPT l Z a0 hw [] w_SIGN_AND_ENCRYPT h46 w_NONE w_SIGN (S_NONE.ext EX46) (S_SIGN.ext EX46) (S_SIGN_AND_ENCRYPT.ext EX46) ne_SN ne_EN ne_ES) (rest := [(.int (2 : Int32))]) (by rw [hml]; rfl) pd__Lcom_example_pubframe_pubframe_message_SecurityMode__I rfl (W := 1) (Nat.le_of_eq rfl) (by decide) (by decide) (by decide) (by decide) rfl (hb hby at_178) (q := 181) rfl ?_
      intro T53 v53 L53 X53 hQ53
      obtain ⟨X53, e53, ev53⟩ := EKit.pureK X53 hQ53
      subst ev53
      show EKit.EndsW p l e room_1 s m #[(.int p0), (.int p1)] below meth c room_1.cells room_1.slots (fun v h L => v = some (.int (1 : Int32)) ∧ Fr h0.size L) T53 (mkF m 181 #[.val (.int p0), .val (.int p1), .val (.int (0 : Int32)), .val (.int (1 : Int32)), .val (.ref b29), .val (.ref b38), .val (.int ((0 : Int32) + (2 : Int32))), .val (.ref w_SIGN_AND_ENCRYPT), .val (.ref w_SIGN_AND_ENCRYPT), .val (.ref w_SIGN_AND_ENCRYPT)] [(.int (2 : Int32)), (.int (2 : Int32))])
      have h181 : ¬ ((2 : Int32) < (2 : Int32)) := by decide
      refine EKit.icmpNo X53 hx ((flt h181).1) (hb hby at_181) (q := 184) rfl ?_
      refine EKit.aload X53 hx rfl rfl (hb hby at_184) (q := 186) rfl ?_
      refine EKit.callS X53 hx hZ hown e53 (y := (⟨"com/example/pubframe/pubframe/message/SecurityModeOfPinLaw", "rank", "(Lcom/example/pubframe/pubframe/message/SecurityMode;)I"⟩ : MethodName)) (hw _ (List.mem_of_getElem? (i := 47) rfl)) (hw _ (List.mem_of_getElem? (i := 48) rfl)) (hw _ (List.mem_of_getElem? (i := 49) rfl)) (hw _ (List.mem_of_getElem? (i := 50) rfl)) (by decide) (argsL := [(.ref w_SIGN_AND_ENCRYPT)]) (rm5_SIGN_AND_ENCRYPT l Z a0 hw [] w_SIGN_AND_ENCRYPT h46 w_NONE w_SIGN (S_NONE.ext EX46) (S_SIGN.ext EX46) (S_SIGN_AND_ENCRYPT.ext EX46) ne_SN ne_EN ne_ES) (rest := []) (by rw [hml]; rfl) pd__Lcom_example_pubframe_pubframe_message_SecurityMode__I rfl (W := 0) (Nat.le_of_eq rfl) (by decide) (by decide) (by decide) (by decide) rfl (hb hby at_186) (q := 189) rfl ?_
      intro T54 v54 L54 X54 hQ54
      obtain ⟨X54, e54, ev54⟩ := EKit.pureK X54 hQ54
      subst ev54
      show EKit.EndsW p l e room_1 s m #[(.int p0), (.int p1)] below meth c room_1.cells room_1.slots (fun v h L => v = some (.int (1 : Int32)) ∧ Fr h0.size L) T54 (mkF m 189 #[.val (.int p0), .val (.int p1), .val (.int (0 : Int32)), .val (.int (1 : Int32)), .val (.ref b29), .val (.ref b38), .val (.int ((0 : Int32) + (2 : Int32))), .val (.ref w_SIGN_AND_ENCRYPT), .val (.ref w_SIGN_AND_ENCRYPT), .val (.ref w_SIGN_AND_ENCRYPT)] [(.int (2 : Int32))])
      refine EKit.aload X54 hx rfl rfl (hb hby at_189) (q := 191) rfl ?_
      refine EKit.callS X54 hx hZ hown e54 (y := (⟨"com/example/pubframe/pubframe/message/SecurityModeOfPinLaw", "rank", "(Lcom/example/pubframe/pubframe/message/SecurityMode;)I"⟩ : MethodName)) (hw _ (List.mem_of_getElem? (i := 47) rfl)) (hw _ (List.mem_of_getElem? (i := 48) rfl)) (hw _ (List.mem_of_getElem? (i := 49) rfl)) (hw _ (List.mem_of_getElem? (i := 50) rfl)) (by decide) (argsL := [(.ref w_SIGN_AND_ENCRYPT)]) (rm5_SIGN_AND_ENCRYPT l Z a0 hw [] w_SIGN_AND_ENCRYPT h46 w_NONE w_SIGN (S_NONE.ext EX46) (S_SIGN.ext EX46) (S_SIGN_AND_ENCRYPT.ext EX46) ne_SN ne_EN ne_ES) (rest := [(.int (2 : Int32))]) (by rw [hml]; rfl) pd__Lcom_example_pubframe_pubframe_message_SecurityMode__I rfl (W := 1) (Nat.le_of_eq rfl) (by decide) (by decide) (by decide) (by decide) rfl (hb hby at_191) (q := 194) rfl ?_
      intro T55 v55 L55 X55 hQ55
      obtain ⟨X55, e55, ev55⟩ := EKit.pureK X55 hQ55
      subst ev55
      show EKit.EndsW p l e room_1 s m #[(.int p0), (.int p1)] below meth c room_1.cells room_1.slots (fun v h L => v = some (.int (1 : Int32)) ∧ Fr h0.size L) T55 (mkF m 194 #[.val (.int p0), .val (.int p1), .val (.int (0 : Int32)), .val (.int (1 : Int32)), .val (.ref b29), .val (.ref b38), .val (.int ((0 : Int32) + (2 : Int32))), .val (.ref w_SIGN_AND_ENCRYPT), .val (.ref w_SIGN_AND_ENCRYPT), .val (.ref w_SIGN_AND_ENCRYPT)] [(.int (2 : Int32)), (.int (2 : Int32))])
      have h194 : ¬ ((2 : Int32) < (2 : Int32)) := by decide
      refine EKit.icmpNo X55 hx ((flt h194).1) (hb hby at_194) (q := 197) rfl ?_
      refine EKit.aload X55 hx rfl rfl (hb hby at_197) (q := 199) rfl ?_
      refine EKit.callS X55 hx hZ hown e55 (y := (⟨"com/example/pubframe/pubframe/message/SecurityModeOfPinLaw", "rank", "(Lcom/example/pubframe/pubframe/message/SecurityMode;)I"⟩ : MethodName)) (hw _ (List.mem_of_getElem? (i := 47) rfl)) (hw _ (List.mem_of_getElem? (i := 48) rfl)) (hw _ (List.mem_of_getElem? (i := 49) rfl)) (hw _ (List.mem_of_getElem? (i := 50) rfl)) (by decide) (argsL := [(.ref w_SIGN_AND_ENCRYPT)]) (rm5_SIGN_AND_ENCRYPT l Z a0 hw [] w_SIGN_AND_ENCRYPT h46 w_NONE w_SIGN (S_NONE.ext EX46) (S_SIGN.ext EX46) (S_SIGN_AND_ENCRYPT.ext EX46) ne_SN ne_EN ne_ES) (rest := []) (by rw [hml]; rfl) pd__Lcom_example_pubframe_pubframe_message_SecurityMode__I rfl (W := 0) (Nat.le_of_eq rfl) (by decide) (by decide) (by decide) (by decide) rfl (hb hby at_199) (q := 202) rfl ?_
      intro T56 v56 L56 X56 hQ56
      obtain ⟨X56, e56, ev56⟩ := EKit.pureK X56 hQ56
      subst ev56
      show EKit.EndsW p l e room_1 s m #[(.int p0), (.int p1)] below meth c room_1.cells room_1.slots (fun v h L => v = some (.int (1 : Int32)) ∧ Fr h0.size L) T56 (mkF m 202 #[.val (.int p0), .val (.int p1), .val (.int (0 : Int32)), .val (.int (1 : Int32)), .val (.ref b29), .val (.ref b38), .val (.int ((0 : Int32) + (2 : Int32))), .val (.ref w_SIGN_AND_ENCRYPT), .val (.ref w_SIGN_AND_ENCRYPT), .val (.ref w_SIGN_AND_ENCRYPT)] [(.int (2 : Int32))])
      have h202 : ¬ ((2 : Int32) < (0 : Int32)) := by decide
      refine EKit.ifNo X56 hx (EKit.c_t (flt h202).1) (hb hby at_202) (q := 205) rfl ?_
      refine EKit.iconst X56 hx (v := (1 : Int32)) rfl (hb hby at_205) (q := 206) rfl ?_
      refine EKit.goto X56 hx (hb hby at_206) (by decide) (q := 210) (by decide) ?_
      exact EKit.toW hS34 (EKit.retZ X56 hx hret (by simp) (hb hby at_210) (⟨⟨rfl, Fr.nil _⟩, by rw [e56]; exact fI_sz_46⟩) (by decide) (by decide))
  · skip
    refine EKit.ifNo X0 hx (EKit.c_t (feq h3).1) (hb hby at_3) (q := 6) rfl ?_
    refine EKit.iconst X0 hx (v := (1 : Int32)) rfl (hb hby at_6) (q := 7) rfl ?_
    refine EKit.goto X0 hx (hb hby at_7) (by decide) (q := 11) (by decide) ?_
    refine EKit.istoreN X0 hx (l' := #[.val (.int p0), .val (.int p1), .val (.int (1 : Int32)), .unset, .unset, .unset, .unset, .unset, .unset, .unset]) rfl (hb hby at_11) (q := 12) rfl ?_
    refine EKit.iloadN X0 hx rfl (hb hby at_12) (q := 13) rfl ?_
    refine EKit.iconst X0 hx (v := (1 : Int32)) rfl (hb hby at_13) (q := 14) rfl ?_
    refine EKit.iand X0 hx  (hb hby at_14) (q := 15) rfl ?_
    by_cases h15 : (p1 &&& (1 : Int32)) = (0 : Int32)
    · skip
      refine EKit.ifYes X0 hx (EKit.c_t (teq h15).1) (hb hby at_15) (by decide) (q := 22) (by decide) ?_
      refine EKit.iconst X0 hx (v := (0 : Int32)) rfl (hb hby at_22) (q := 23) rfl ?_
      refine EKit.istoreN X0 hx (l' := #[.val (.int p0), .val (.int p1), .val (.int (1 : Int32)), .val (.int (0 : Int32)), .unset, .unset, .unset, .unset, .unset, .unset]) rfl (hb hby at_23) (q := 24) rfl ?_
      refine EKit.iconst X0 hx (v := (4 : Int32)) rfl (hb hby at_24) (q := 25) rfl ?_
      refine EKit.newref X0 hx hZ hown e0 (hw _ (List.mem_of_getElem? (i := 0) rfl)) (hw _ (List.mem_of_getElem? (i := 1) rfl)) (by decide) (cap := 4) (by decide) (by decide) (by decide) (by decide) (hb hby at_25) (q := 28) rfl ?_
      intro T57 h57 b57 k57 X57 e57 E57 g57 O57 V57
      have V57 : Ary Z h57 b57 k57 (.object "java/lang/String") (4 : Int32) (fun _ => .null) := V57
      have gn_b57 : h0.size ≤ b57 := Nat.le_trans (Nat.le_refl _) (Nat.le_of_eq g57.symm)
      have sz57 : h0.size ≤ h57.size := Nat.le_trans (Nat.le_refl _) E57.1
      have EX57 := E57
      show EKit.EndsW p l e room_1 s m #[(.int p0), (.int p1)] below meth c room_1.cells room_1.slots (fun v h L => v = some (.int (1 : Int32)) ∧ Fr h0.size L) T57 (mkF m 28 #[.val (.int p0), .val (.int p1), .val (.int (1 : Int32)), .val (.int (0 : Int32)), .unset, .unset, .unset, .unset, .unset, .unset] [(.ref b57)])
      refine EKit.dup X57 hx rfl (hb hby at_28) (q := 29) rfl ?_
      refine EKit.iconst X57 hx (v := (0 : Int32)) rfl (hb hby at_29) (q := 30) rfl ?_
      obtain ⟨b58, T58, h58, kq58, c58, kb58, X58, e58, E58, hS58, hk58, hZ, hown, A58, Fc58, Fv58, Vb58, lt58, ltc58, I58, Li58, st58⟩ := ldcSVL (s := s) (vm0 := s.vm) X57 hx hZ hown (hw _ (List.mem_of_getElem? (i := 2) rfl)) own_sa e57 (State.WarmedH.since (State.WarmedH.refl s) 0) (Nat.zero_le _) (Fr.nil _) (fun _ _ q => by rw [hhz]; exact q) own_I (by decide) hh_NONE hcw (vs := [.int (78 : Int32), .int (111 : Int32), .int (110 : Int32), .int (101 : Int32)]) (z := (4 : Int32)) ⟨by decide, by decide +kernel⟩ (by decide) rfl (g := (mkF m 30 #[.val (.int p0), .val (.int p1), .val (.int (1 : Int32)), .val (.int (0 : Int32)), .unset, .unset, .unset, .unset, .unset, .unset] [(.int (0 : Int32)), (.ref b57), (.ref b57)])) rfl (hb hby at_30) (n := 16) (by decide) (by decide) (by decide) (by decide)
      have hs0 : (s.setVm T58.vm).heap = h0 := hs0
      have sz58 : h0.size ≤ h58.size := Nat.le_trans sz57 E58.1
      have fV_b57_58 := V57.ext E58
      have V58 : Ary Z h58 c58 kb58 .byte (4 : Int32) (fun j => .int (own_tN j)) := EKit.Ary.ofArv Vb58 (own_at_own_tN)
      have ne_b58_b57 : b58 ≠ b57 := EKit.Exa.ne_ary A58 (hw _ (List.mem_of_getElem? (i := 4) rfl)) fV_b57_58
      have ne_c58_b57 : c58 ≠ b57 := EKit.Ary.ne_ty V58 fV_b57_58 (by decide)
      have zz58 : EKit.Sz kq58 h58 := hk58
      have EX58 := EKit.Ext_trans EX57 E58
      refine EKit.step st58 ?_
      show EKit.EndsW p l e room_1 s m #[(.int p0), (.int p1)] below meth c room_1.cells room_1.slots (fun v h L => v = some (.int (1 : Int32)) ∧ Fr h0.size L) T58 (mkF m 32 #[.val (.int p0), .val (.int p1), .val (.int (1 : Int32)), .val (.int (0 : Int32)), .unset, .unset, .unset, .unset, .unset, .unset] [(.ref b58), (.int (0 : Int32)), (.ref b57), (.ref b57)])
      refine EKit.aastore X58 hx hZ e58 fV_b57_58 O57 (Ins.self A58) (by decide) (by decide) (hb hby at_32) (q := 33) rfl ?_
      intro T59 h59 X59 e59 W59 V59
      have X59 := Stand.forget X59 (fun y hy => by cases List.mem_singleton.mp hy; rw [hs0]; exact gn_b57)
      have sz59 : h0.size ≤ h59.size := Nat.le_trans sz58 (Keep.of_wr W59).1
      have fE_b58_59 := A58.wr W59
      have fF_b58_coder_59 := Fc58.other W59 (Or.inl (ne_b58_b57))
      have fF_b58_value_59 := Fv58.other W59 (Or.inl (ne_b58_b57))
      have fV_c58_59 := V58.other W59 (ne_c58_b57)
      have fI_sz_59 := zz58.wr W59
      have EX59 := EKit.Ext_wr EX58 W59 gn_b57
      refine EKit.dup X59 hx rfl (hb hby at_33) (q := 34) rfl ?_
      refine EKit.iconst X59 hx (v := (1 : Int32)) rfl (hb hby at_34) (q := 35) rfl ?_
      obtain ⟨b60, T60, h60, kq60, c60, kb60, X60, e60, E60, hS60, hk60, hZ, hown, A60, Fc60, Fv60, Vb60, lt60, ltc60, I60, Li60, st60⟩ := ldcSVL (s := s) (vm0 := T58.vm) X59 hx hZ hown (hw _ (List.mem_of_getElem? (i := 11) rfl)) own_sa e59 hS58 fI_sz_59 (Fr.nil _) (fun _ _ q => by rw [hhz]; exact q) I58 (by decide) hh_SIGN hcw (vs := [.int (83 : Int32), .int (105 : Int32), .int (103 : Int32), .int (110 : Int32)]) (z := (4 : Int32)) ⟨by decide, by decide +kernel⟩ (by decide) rfl (g := (mkF m 35 #[.val (.int p0), .val (.int p1), .val (.int (1 : Int32)), .val (.int (0 : Int32)), .unset, .unset, .unset, .unset, .unset, .unset] [(.int (1 : Int32)), (.ref b57), (.ref b57)])) rfl (hb hby at_35) (n := 16) (by decide) (by decide) (by decide) (by decide)
      have hs0 : (s.setVm T60.vm).heap = h0 := hs0
      have sz60 : h0.size ≤ h60.size := Nat.le_trans sz59 E60.1
      have fV_b57_60 := V59.ext E60
      have fE_b58_60 := fE_b58_59.ext E60
      have fF_b58_coder_60 := fF_b58_coder_59.ext E60
      have fF_b58_value_60 := fF_b58_value_59.ext E60
      have fV_c58_60 := fV_c58_59.ext E60
      have fI_sz_60 := fI_sz_59.ext E60
      have V60 : Ary Z h60 c60 kb60 .byte (4 : Int32) (fun j => .int (own_tS j)) := EKit.Ary.ofArv Vb60 (own_at_own_tS)
      have ne_b60_b57 : b60 ≠ b57 := EKit.Exa.ne_ary A60 (hw _ (List.mem_of_getElem? (i := 4) rfl)) fV_b57_60
      have ne_c60_b57 : c60 ≠ b57 := EKit.Ary.ne_ty V60 fV_b57_60 (by decide)
      have zz60 : EKit.Sz kq60 h60 := hk60
      have EX60 := EKit.Ext_trans EX59 E60
      refine EKit.step st60 ?_
      show EKit.EndsW p l e room_1 s m #[(.int p0), (.int p1)] below meth c room_1.cells room_1.slots (fun v h L => v = some (.int (1 : Int32)) ∧ Fr h0.size L) T60 (mkF m 37 #[.val (.int p0), .val (.int p1), .val (.int (1 : Int32)), .val (.int (0 : Int32)), .unset, .unset, .unset, .unset, .unset, .unset] [(.ref b60), (.int (1 : Int32)), (.ref b57), (.ref b57)])
      refine EKit.aastore X60 hx hZ e60 fV_b57_60 O57 (Ins.self A60) (by decide) (by decide) (hb hby at_37) (q := 38) rfl ?_
      intro T61 h61 X61 e61 W61 V61
      have X61 := Stand.forget X61 (fun y hy => by cases List.mem_singleton.mp hy; rw [hs0]; exact gn_b57)
      have sz61 : h0.size ≤ h61.size := Nat.le_trans sz60 (Keep.of_wr W61).1
      have fE_b58_61 := fE_b58_60.wr W61
      have fF_b58_coder_61 := fF_b58_coder_60.other W61 (Or.inl (ne_b58_b57))
      have fF_b58_value_61 := fF_b58_value_60.other W61 (Or.inl (ne_b58_b57))
      have fV_c58_61 := fV_c58_60.other W61 (ne_c58_b57)
      have fE_b60_61 := A60.wr W61
      have fF_b60_coder_61 := Fc60.other W61 (Or.inl (ne_b60_b57))
      have fF_b60_value_61 := Fv60.other W61 (Or.inl (ne_b60_b57))
      have fV_c60_61 := V60.other W61 (ne_c60_b57)
      have fI_sz_61 := zz60.wr W61
      have EX61 := EKit.Ext_wr EX60 W61 gn_b57
      refine EKit.dup X61 hx rfl (hb hby at_38) (q := 39) rfl ?_
      refine EKit.iconst X61 hx (v := (2 : Int32)) rfl (hb hby at_39) (q := 40) rfl ?_
      obtain ⟨b62, T62, h62, kq62, c62, kb62, X62, e62, E62, hS62, hk62, hZ, hown, A62, Fc62, Fv62, Vb62, lt62, ltc62, I62, Li62, st62⟩ := ldcSVL (s := s) (vm0 := T60.vm) X61 hx hZ hown (hw _ (List.mem_of_getElem? (i := 12) rfl)) own_sa e61 hS60 fI_sz_61 (Fr.nil _) (fun _ _ q => by rw [hhz]; exact q) I60 (by decide) hh_SIGN_AND_ENCRYPT hcw (vs := [.int (83 : Int32), .int (105 : Int32), .int (103 : Int32), .int (110 : Int32), .int (65 : Int32), .int (110 : Int32), .int (100 : Int32), .int (69 : Int32), .int (110 : Int32), .int (99 : Int32), .int (114 : Int32), .int (121 : Int32), .int (112 : Int32), .int (116 : Int32)]) (z := (14 : Int32)) ⟨by decide, by decide +kernel⟩ (by decide) rfl (g := (mkF m 40 #[.val (.int p0), .val (.int p1), .val (.int (1 : Int32)), .val (.int (0 : Int32)), .unset, .unset, .unset, .unset, .unset, .unset] [(.int (2 : Int32)), (.ref b57), (.ref b57)])) rfl (hb hby at_40) (n := 56) (by decide) (by decide) (by decide) (by decide)
      have hs0 : (s.setVm T62.vm).heap = h0 := hs0
      have sz62 : h0.size ≤ h62.size := Nat.le_trans sz61 E62.1
      have fV_b57_62 := V61.ext E62
      have fE_b58_62 := fE_b58_61.ext E62
      have fF_b58_coder_62 := fF_b58_coder_61.ext E62
      have fF_b58_value_62 := fF_b58_value_61.ext E62
      have fV_c58_62 := fV_c58_61.ext E62
      have fE_b60_62 := fE_b60_61.ext E62
      have fF_b60_coder_62 := fF_b60_coder_61.ext E62
      have fF_b60_value_62 := fF_b60_value_61.ext E62
      have fV_c60_62 := fV_c60_61.ext E62
      have fI_sz_62 := fI_sz_61.ext E62
      have V62 : Ary Z h62 c62 kb62 .byte (14 : Int32) (fun j => .int (own_tE j)) := EKit.Ary.ofArv Vb62 (own_at_own_tE)
      have ne_b62_b57 : b62 ≠ b57 := EKit.Exa.ne_ary A62 (hw _ (List.mem_of_getElem? (i := 4) rfl)) fV_b57_62
      have ne_c62_b57 : c62 ≠ b57 := EKit.Ary.ne_ty V62 fV_b57_62 (by decide)
      have zz62 : EKit.Sz kq62 h62 := hk62
      have EX62 := EKit.Ext_trans EX61 E62
      refine EKit.step st62 ?_
      show EKit.EndsW p l e room_1 s m #[(.int p0), (.int p1)] below meth c room_1.cells room_1.slots (fun v h L => v = some (.int (1 : Int32)) ∧ Fr h0.size L) T62 (mkF m 42 #[.val (.int p0), .val (.int p1), .val (.int (1 : Int32)), .val (.int (0 : Int32)), .unset, .unset, .unset, .unset, .unset, .unset] [(.ref b62), (.int (2 : Int32)), (.ref b57), (.ref b57)])
      refine EKit.aastore X62 hx hZ e62 fV_b57_62 O57 (Ins.self A62) (by decide) (by decide) (hb hby at_42) (q := 43) rfl ?_
      intro T63 h63 X63 e63 W63 V63
      have X63 := Stand.forget X63 (fun y hy => by cases List.mem_singleton.mp hy; rw [hs0]; exact gn_b57)
      have sz63 : h0.size ≤ h63.size := Nat.le_trans sz62 (Keep.of_wr W63).1
      have fE_b58_63 := fE_b58_62.wr W63
      have fF_b58_coder_63 := fF_b58_coder_62.other W63 (Or.inl (ne_b58_b57))
      have fF_b58_value_63 := fF_b58_value_62.other W63 (Or.inl (ne_b58_b57))
      have fV_c58_63 := fV_c58_62.other W63 (ne_c58_b57)
      have fE_b60_63 := fE_b60_62.wr W63
      have fF_b60_coder_63 := fF_b60_coder_62.other W63 (Or.inl (ne_b60_b57))
      have fF_b60_value_63 := fF_b60_value_62.other W63 (Or.inl (ne_b60_b57))
      have fV_c60_63 := fV_c60_62.other W63 (ne_c60_b57)
      have fE_b62_63 := A62.wr W63
      have fF_b62_coder_63 := Fc62.other W63 (Or.inl (ne_b62_b57))
      have fF_b62_value_63 := Fv62.other W63 (Or.inl (ne_b62_b57))
      have fV_c62_63 := V62.other W63 (ne_c62_b57)
      have fI_sz_63 := zz62.wr W63
      have EX63 := EKit.Ext_wr EX62 W63 gn_b57
      refine EKit.dup X63 hx rfl (hb hby at_43) (q := 44) rfl ?_
      refine EKit.iconst X63 hx (v := (3 : Int32)) rfl (hb hby at_44) (q := 45) rfl ?_
      refine EKit.step (ldcAgain (s := s) (vm0 := T62.vm) X63 hx hZ hown (hw _ (List.mem_of_getElem? (i := 12) rfl)) Li62 (g := (mkF m 45 #[.val (.int p0), .val (.int p1), .val (.int (1 : Int32)), .val (.int (0 : Int32)), .unset, .unset, .unset, .unset, .unset, .unset] [(.int (3 : Int32)), (.ref b57), (.ref b57)])) rfl (hb hby at_45)) ?_
      show EKit.EndsW p l e room_1 s m #[(.int p0), (.int p1)] below meth c room_1.cells room_1.slots (fun v h L => v = some (.int (1 : Int32)) ∧ Fr h0.size L) T63 (mkF m 47 #[.val (.int p0), .val (.int p1), .val (.int (1 : Int32)), .val (.int (0 : Int32)), .unset, .unset, .unset, .unset, .unset, .unset] [(.ref b62), (.int (3 : Int32)), (.ref b57), (.ref b57)])
      refine EKit.aastore X63 hx hZ e63 V63 O57 (Ins.self fE_b62_63) (by decide) (by decide) (hb hby at_47) (q := 48) rfl ?_
      intro T65 h65 X65 e65 W65 V65
      have X65 := Stand.forget X65 (fun y hy => by cases List.mem_singleton.mp hy; rw [hs0]; exact gn_b57)
      have sz65 : h0.size ≤ h65.size := Nat.le_trans sz63 (Keep.of_wr W65).1
      have fE_b58_65 := fE_b58_63.wr W65
      have fF_b58_coder_65 := fF_b58_coder_63.other W65 (Or.inl (ne_b58_b57))
      have fF_b58_value_65 := fF_b58_value_63.other W65 (Or.inl (ne_b58_b57))
      have fV_c58_65 := fV_c58_63.other W65 (ne_c58_b57)
      have fE_b60_65 := fE_b60_63.wr W65
      have fF_b60_coder_65 := fF_b60_coder_63.other W65 (Or.inl (ne_b60_b57))
      have fF_b60_value_65 := fF_b60_value_63.other W65 (Or.inl (ne_b60_b57))
      have fV_c60_65 := fV_c60_63.other W65 (ne_c60_b57)
      have fE_b62_65 := fE_b62_63.wr W65
      have fF_b62_coder_65 := fF_b62_coder_63.other W65 (Or.inl (ne_b62_b57))
      have fF_b62_value_65 := fF_b62_value_63.other W65 (Or.inl (ne_b62_b57))
      have fV_c62_65 := fV_c62_63.other W65 (ne_c62_b57)
      have fI_sz_65 := fI_sz_63.wr W65
      have EX65 := EKit.Ext_wr EX63 W65 gn_b57
      refine EKit.astore X65 hx rfl (l' := #[.val (.int p0), .val (.int p1), .val (.int (1 : Int32)), .val (.int (0 : Int32)), .val (.ref b57), .unset, .unset, .unset, .unset, .unset]) rfl (hb hby at_48) (q := 50) rfl ?_
      refine EKit.iconst X65 hx (v := (4 : Int32)) rfl (hb hby at_50) (q := 51) rfl ?_
      refine EKit.newref X65 hx hZ hown e65 (hw _ (List.mem_of_getElem? (i := 13) rfl)) (hw _ (List.mem_of_getElem? (i := 14) rfl)) (by decide) (cap := 4) (by decide) (by decide) (by decide) (by decide) (hb hby at_51) (q := 54) rfl ?_
      intro T66 h66 b66 k66 X66 e66 E66 g66 O66 V66
      have V66 : Ary Z h66 b66 k66 (.object "com/example/pubframe/pubframe/message/SecurityMode") (4 : Int32) (fun _ => .null) := V66
      have gn_b66 : h0.size ≤ b66 := Nat.le_trans sz65 (Nat.le_of_eq g66.symm)
      have sz66 : h0.size ≤ h66.size := Nat.le_trans sz65 E66.1
      have ne_b57_b66 : b57 ≠ b66 := Nat.ne_of_lt (Nat.lt_of_lt_of_le (V65).lt (Nat.le_of_eq g66.symm))
      have ne_b66_b57 : b66 ≠ b57 := Ne.symm ne_b57_b66
      have ne_b58_b66 : b58 ≠ b66 := Nat.ne_of_lt (Nat.lt_of_lt_of_le (fE_b58_65).lt (Nat.le_of_eq g66.symm))
      have ne_b66_b58 : b66 ≠ b58 := Ne.symm ne_b58_b66
      have ne_c58_b66 : c58 ≠ b66 := Nat.ne_of_lt (Nat.lt_of_lt_of_le (fV_c58_65).lt (Nat.le_of_eq g66.symm))
      have ne_b66_c58 : b66 ≠ c58 := Ne.symm ne_c58_b66
      have ne_b60_b66 : b60 ≠ b66 := Nat.ne_of_lt (Nat.lt_of_lt_of_le (fE_b60_65).lt (Nat.le_of_eq g66.symm))
      have ne_b66_b60 : b66 ≠ b60 := Ne.symm ne_b60_b66
      have ne_c60_b66 : c60 ≠ b66 := Nat.ne_of_lt (Nat.lt_of_lt_of_le (fV_c60_65).lt (Nat.le_of_eq g66.symm))
      have ne_b66_c60 : b66 ≠ c60 := Ne.symm ne_c60_b66
      have ne_b62_b66 : b62 ≠ b66 := Nat.ne_of_lt (Nat.lt_of_lt_of_le (fE_b62_65).lt (Nat.le_of_eq g66.symm))
      have ne_b66_b62 : b66 ≠ b62 := Ne.symm ne_b62_b66
      have ne_c62_b66 : c62 ≠ b66 := Nat.ne_of_lt (Nat.lt_of_lt_of_le (fV_c62_65).lt (Nat.le_of_eq g66.symm))
      have ne_b66_c62 : b66 ≠ c62 := Ne.symm ne_c62_b66
      have fV_b57_66 := V65.ext E66
      have fE_b58_66 := fE_b58_65.ext E66
      have fF_b58_coder_66 := fF_b58_coder_65.ext E66
      have fF_b58_value_66 := fF_b58_value_65.ext E66
      have fV_c58_66 := fV_c58_65.ext E66
      have fE_b60_66 := fE_b60_65.ext E66
      have fF_b60_coder_66 := fF_b60_coder_65.ext E66
      have fF_b60_value_66 := fF_b60_value_65.ext E66
      have fV_c60_66 := fV_c60_65.ext E66
      have fE_b62_66 := fE_b62_65.ext E66
      have fF_b62_coder_66 := fF_b62_coder_65.ext E66
      have fF_b62_value_66 := fF_b62_value_65.ext E66
      have fV_c62_66 := fV_c62_65.ext E66
      have fI_sz_66 := fI_sz_65.ext E66
      have EX66 := EKit.Ext_trans EX65 E66
      show EKit.EndsW p l e room_1 s m #[(.int p0), (.int p1)] below meth c room_1.cells room_1.slots (fun v h L => v = some (.int (1 : Int32)) ∧ Fr h0.size L) T66 (mkF m 54 #[.val (.int p0), .val (.int p1), .val (.int (1 : Int32)), .val (.int (0 : Int32)), .val (.ref b57), .unset, .unset, .unset, .unset, .unset] [(.ref b66)])
      refine EKit.dup X66 hx rfl (hb hby at_54) (q := 55) rfl ?_
      refine EKit.iconst X66 hx (v := (0 : Int32)) rfl (hb hby at_55) (q := 56) rfl ?_
      obtain ⟨T67, X67, e67, st67⟩ := getS X66 hx hZ (host := "") hown (hw _ (List.mem_of_getElem? (i := 15) rfl)) Via.refl e66 (S_NONE.ext EX66) (g := (mkF m 56 #[.val (.int p0), .val (.int p1), .val (.int (1 : Int32)), .val (.int (0 : Int32)), .val (.ref b57), .unset, .unset, .unset, .unset, .unset] [(.int (0 : Int32)), (.ref b66), (.ref b66)])) rfl (hb hby at_56)
      refine EKit.step st67 ?_
      show EKit.EndsW p l e room_1 s m #[(.int p0), (.int p1)] below meth c room_1.cells room_1.slots (fun v h L => v = some (.int (1 : Int32)) ∧ Fr h0.size L) T67 (mkF m 59 #[.val (.int p0), .val (.int p1), .val (.int (1 : Int32)), .val (.int (0 : Int32)), .val (.ref b57), .unset, .unset, .unset, .unset, .unset] [(.ref w_NONE), (.int (0 : Int32)), (.ref b66), (.ref b66)])
      refine EKit.aastore X67 hx hZ e67 V66 O66 (Ins.self (E_NONE.ext EX66)) (by decide) (by decide) (hb hby at_59) (q := 60) rfl ?_
      intro T68 h68 X68 e68 W68 V68
      have X68 := Stand.forget X68 (fun y hy => by cases List.mem_singleton.mp hy; rw [hs0]; exact gn_b66)
      have sz68 : h0.size ≤ h68.size := Nat.le_trans sz66 (Keep.of_wr W68).1
      have fV_b57_68 := fV_b57_66.other W68 (ne_b57_b66)
      have fE_b58_68 := fE_b58_66.wr W68
      have fF_b58_coder_68 := fF_b58_coder_66.other W68 (Or.inl (ne_b58_b66))
      have fF_b58_value_68 := fF_b58_value_66.other W68 (Or.inl (ne_b58_b66))
      have fV_c58_68 := fV_c58_66.other W68 (ne_c58_b66)
      have fE_b60_68 := fE_b60_66.wr W68
      have fF_b60_coder_68 := fF_b60_coder_66.other W68 (Or.inl (ne_b60_b66))
      have fF_b60_value_68 := fF_b60_value_66.other W68 (Or.inl (ne_b60_b66))
      have fV_c60_68 := fV_c60_66.other W68 (ne_c60_b66)
      have fE_b62_68 := fE_b62_66.wr W68
      have fF_b62_coder_68 := fF_b62_coder_66.other W68 (Or.inl (ne_b62_b66))
      have fF_b62_value_68 := fF_b62_value_66.other W68 (Or.inl (ne_b62_b66))
      have fV_c62_68 := fV_c62_66.other W68 (ne_c62_b66)
      have fI_sz_68 := fI_sz_66.wr W68
      have EX68 := EKit.Ext_wr EX66 W68 gn_b66
      refine EKit.dup X68 hx rfl (hb hby at_60) (q := 61) rfl ?_
      refine EKit.iconst X68 hx (v := (1 : Int32)) rfl (hb hby at_61) (q := 62) rfl ?_
      obtain ⟨T69, X69, e69, st69⟩ := getS X68 hx hZ (host := "") hown (hw _ (List.mem_of_getElem? (i := 19) rfl)) Via.refl e68 (S_SIGN.ext EX68) (g := (mkF m 62 #[.val (.int p0), .val (.int p1), .val (.int (1 : Int32)), .val (.int (0 : Int32)), .val (.ref b57), .unset, .unset, .unset, .unset, .unset] [(.int (1 : Int32)), (.ref b66), (.ref b66)])) rfl (hb hby at_62)
      refine EKit.step st69 ?_
      show EKit.EndsW p l e room_1 s m #[(.int p0), (.int p1)] below meth c room_1.cells room_1.slots (fun v h L => v = some (.int (1 : Int32)) ∧ Fr h0.size L) T69 (mkF m 65 #[.val (.int p0), .val (.int p1), .val (.int (1 : Int32)), .val (.int (0 : Int32)), .val (.ref b57), .unset, .unset, .unset, .unset, .unset] [(.ref w_SIGN), (.int (1 : Int32)), (.ref b66), (.ref b66)])
      refine EKit.aastore X69 hx hZ e69 V68 O66 (Ins.self (E_SIGN.ext EX68)) (by decide) (by decide) (hb hby at_65) (q := 66) rfl ?_
      intro T70 h70 X70 e70 W70 V70
      have X70 := Stand.forget X70 (fun y hy => by cases List.mem_singleton.mp hy; rw [hs0]; exact gn_b66)
      have sz70 : h0.size ≤ h70.size := Nat.le_trans sz68 (Keep.of_wr W70).1
      have fV_b57_70 := fV_b57_68.other W70 (ne_b57_b66)
      have fE_b58_70 := fE_b58_68.wr W70
      have fF_b58_coder_70 := fF_b58_coder_68.other W70 (Or.inl (ne_b58_b66))
      have fF_b58_value_70 := fF_b58_value_68.other W70 (Or.inl (ne_b58_b66))
      have fV_c58_70 := fV_c58_68.other W70 (ne_c58_b66)
      have fE_b60_70 := fE_b60_68.wr W70
      have fF_b60_coder_70 := fF_b60_coder_68.other W70 (Or.inl (ne_b60_b66))
      have fF_b60_value_70 := fF_b60_value_68.other W70 (Or.inl (ne_b60_b66))
      have fV_c60_70 := fV_c60_68.other W70 (ne_c60_b66)
      have fE_b62_70 := fE_b62_68.wr W70
      have fF_b62_coder_70 := fF_b62_coder_68.other W70 (Or.inl (ne_b62_b66))
      have fF_b62_value_70 := fF_b62_value_68.other W70 (Or.inl (ne_b62_b66))
      have fV_c62_70 := fV_c62_68.other W70 (ne_c62_b66)
      have fI_sz_70 := fI_sz_68.wr W70
      have EX70 := EKit.Ext_wr EX68 W70 gn_b66
      refine EKit.dup X70 hx rfl (hb hby at_66) (q := 67) rfl ?_
      refine EKit.iconst X70 hx (v := (2 : Int32)) rfl (hb hby at_67) (q := 68) rfl ?_
      obtain ⟨T71, X71, e71, st71⟩ := getS X70 hx hZ (host := "") hown (hw _ (List.mem_of_getElem? (i := 21) rfl)) Via.refl e70 (S_SIGN_AND_ENCRYPT.ext EX70) (g := (mkF m 68 #[.val (.int p0), .val (.int p1), .val (.int (1 : Int32)), .val (.int (0 : Int32)), .val (.ref b57), .unset, .unset, .unset, .unset, .unset] [(.int (2 : Int32)), (.ref b66), (.ref b66)])) rfl (hb hby at_68)
      refine EKit.step st71 ?_
      show EKit.EndsW p l e room_1 s m #[(.int p0), (.int p1)] below meth c room_1.cells room_1.slots (fun v h L => v = some (.int (1 : Int32)) ∧ Fr h0.size L) T71 (mkF m 71 #[.val (.int p0), .val (.int p1), .val (.int (1 : Int32)), .val (.int (0 : Int32)), .val (.ref b57), .unset, .unset, .unset, .unset, .unset] [(.ref w_SIGN_AND_ENCRYPT), (.int (2 : Int32)), (.ref b66), (.ref b66)])
      refine EKit.aastore X71 hx hZ e71 V70 O66 (Ins.self (E_SIGN_AND_ENCRYPT.ext EX70)) (by decide) (by decide) (hb hby at_71) (q := 72) rfl ?_
      intro T72 h72 X72 e72 W72 V72
      have X72 := Stand.forget X72 (fun y hy => by cases List.mem_singleton.mp hy; rw [hs0]; exact gn_b66)
      have sz72 : h0.size ≤ h72.size := Nat.le_trans sz70 (Keep.of_wr W72).1
      have fV_b57_72 := fV_b57_70.other W72 (ne_b57_b66)
      have fE_b58_72 := fE_b58_70.wr W72
      have fF_b58_coder_72 := fF_b58_coder_70.other W72 (Or.inl (ne_b58_b66))
      have fF_b58_value_72 := fF_b58_value_70.other W72 (Or.inl (ne_b58_b66))
      have fV_c58_72 := fV_c58_70.other W72 (ne_c58_b66)
      have fE_b60_72 := fE_b60_70.wr W72
      have fF_b60_coder_72 := fF_b60_coder_70.other W72 (Or.inl (ne_b60_b66))
      have fF_b60_value_72 := fF_b60_value_70.other W72 (Or.inl (ne_b60_b66))
      have fV_c60_72 := fV_c60_70.other W72 (ne_c60_b66)
      have fE_b62_72 := fE_b62_70.wr W72
      have fF_b62_coder_72 := fF_b62_coder_70.other W72 (Or.inl (ne_b62_b66))
      have fF_b62_value_72 := fF_b62_value_70.other W72 (Or.inl (ne_b62_b66))
      have fV_c62_72 := fV_c62_70.other W72 (ne_c62_b66)
      have fI_sz_72 := fI_sz_70.wr W72
      have EX72 := EKit.Ext_wr EX70 W72 gn_b66
      refine EKit.dup X72 hx rfl (hb hby at_72) (q := 73) rfl ?_
      refine EKit.iconst X72 hx (v := (3 : Int32)) rfl (hb hby at_73) (q := 74) rfl ?_
      obtain ⟨T73, X73, e73, st73⟩ := getS X72 hx hZ (host := "") hown (hw _ (List.mem_of_getElem? (i := 21) rfl)) Via.refl e72 (S_SIGN_AND_ENCRYPT.ext EX72) (g := (mkF m 74 #[.val (.int p0), .val (.int p1), .val (.int (1 : Int32)), .val (.int (0 : Int32)), .val (.ref b57), .unset, .unset, .unset, .unset, .unset] [(.int (3 : Int32)), (.ref b66), (.ref b66)])) rfl (hb hby at_74)
      refine EKit.step st73 ?_
      show EKit.EndsW p l e room_1 s m #[(.int p0), (.int p1)] below meth c room_1.cells room_1.slots (fun v h L => v = some (.int (1 : Int32)) ∧ Fr h0.size L) T73 (mkF m 77 #[.val (.int p0), .val (.int p1), .val (.int (1 : Int32)), .val (.int (0 : Int32)), .val (.ref b57), .unset, .unset, .unset, .unset, .unset] [(.ref w_SIGN_AND_ENCRYPT), (.int (3 : Int32)), (.ref b66), (.ref b66)])
      refine EKit.aastore X73 hx hZ e73 V72 O66 (Ins.self (E_SIGN_AND_ENCRYPT.ext EX72)) (by decide) (by decide) (hb hby at_77) (q := 78) rfl ?_
      intro T74 h74 X74 e74 W74 V74
      have X74 := Stand.forget X74 (fun y hy => by cases List.mem_singleton.mp hy; rw [hs0]; exact gn_b66)
      have sz74 : h0.size ≤ h74.size := Nat.le_trans sz72 (Keep.of_wr W74).1
      have fV_b57_74 := fV_b57_72.other W74 (ne_b57_b66)
      have fE_b58_74 := fE_b58_72.wr W74
      have fF_b58_coder_74 := fF_b58_coder_72.other W74 (Or.inl (ne_b58_b66))
      have fF_b58_value_74 := fF_b58_value_72.other W74 (Or.inl (ne_b58_b66))
      have fV_c58_74 := fV_c58_72.other W74 (ne_c58_b66)
      have fE_b60_74 := fE_b60_72.wr W74
      have fF_b60_coder_74 := fF_b60_coder_72.other W74 (Or.inl (ne_b60_b66))
      have fF_b60_value_74 := fF_b60_value_72.other W74 (Or.inl (ne_b60_b66))
      have fV_c60_74 := fV_c60_72.other W74 (ne_c60_b66)
      have fE_b62_74 := fE_b62_72.wr W74
      have fF_b62_coder_74 := fF_b62_coder_72.other W74 (Or.inl (ne_b62_b66))
      have fF_b62_value_74 := fF_b62_value_72.other W74 (Or.inl (ne_b62_b66))
      have fV_c62_74 := fV_c62_72.other W74 (ne_c62_b66)
      have fI_sz_74 := fI_sz_72.wr W74
      have EX74 := EKit.Ext_wr EX72 W74 gn_b66
      refine EKit.astore X74 hx rfl (l' := #[.val (.int p0), .val (.int p1), .val (.int (1 : Int32)), .val (.int (0 : Int32)), .val (.ref b57), .val (.ref b66), .unset, .unset, .unset, .unset]) rfl (hb hby at_78) (q := 80) rfl ?_
      refine EKit.iloadN X74 hx rfl (hb hby at_80) (q := 81) rfl ?_
      have h81 : ¬ ((1 : Int32) = (0 : Int32)) := by decide
      refine EKit.ifNo X74 hx (EKit.c_t (feq h81).1) (hb hby at_81) (q := 84) rfl ?_
      refine EKit.iconst X74 hx (v := (1 : Int32)) rfl (hb hby at_84) (q := 85) rfl ?_
      refine EKit.goto X74 hx (hb hby at_85) (by decide) (q := 89) (by decide) ?_
      refine EKit.iloadN X74 hx rfl (hb hby at_89) (q := 90) rfl ?_
      have h90 : (0 : Int32) = (0 : Int32) := by decide
      refine EKit.ifYes X74 hx (EKit.c_t (teq h90).1) (hb hby at_90) (by decide) (q := 97) (by decide) ?_
      refine EKit.iconst X74 hx (v := (0 : Int32)) rfl (hb hby at_97) (q := 98) rfl ?_
      refine EKit.iadd X74 hx  (hb hby at_98) (q := 99) rfl ?_
      refine EKit.istore X74 hx (l' := #[.val (.int p0), .val (.int p1), .val (.int (1 : Int32)), .val (.int (0 : Int32)), .val (.ref b57), .val (.ref b66), .val (.int ((1 : Int32) + (0 : Int32))), .unset, .unset, .unset]) rfl (hb hby at_99) (q := 101) rfl ?_
      refine EKit.iloadN X74 hx rfl (hb hby at_101) (q := 102) rfl ?_
      refine EKit.iloadN X74 hx rfl (hb hby at_102) (q := 103) rfl ?_
      refine EKit.callS X74 hx hZ hown e74 (y := (⟨"com/example/pubframe/pubframe/message/SecurityMode", "of", "(ZZ)Lcom/example/pubframe/pubframe/message/SecurityMode;"⟩ : MethodName)) (hw _ (List.mem_of_getElem? (i := 23) rfl)) (hw _ (List.mem_of_getElem? (i := 24) rfl)) (hw _ (List.mem_of_getElem? (i := 16) rfl)) (hw _ (List.mem_of_getElem? (i := 25) rfl)) (by decide) (argsL := [(.int (1 : Int32)), (.int (0 : Int32))]) (rm1_10 l Z a0 hw [] h74 w_NONE w_SIGN w_SIGN_AND_ENCRYPT (S_NONE.ext EX74) (S_SIGN.ext EX74) (S_SIGN_AND_ENCRYPT.ext EX74)) (rest := []) (by rw [hml]; rfl) pd__ZZ_Lcom_example_pubframe_pubframe_message_SecurityMode_ rfl (W := 0) (Nat.le_of_eq rfl) (by decide) (by decide) (by decide) (by decide) rfl (hb hby at_103) (q := 106) rfl ?_
      intro T75 v75 L75 X75 hQ75
      obtain ⟨X75, e75, ev75⟩ := EKit.pureK X75 hQ75
      subst ev75
      show EKit.EndsW p l e room_1 s m #[(.int p0), (.int p1)] below meth c room_1.cells room_1.slots (fun v h L => v = some (.int (1 : Int32)) ∧ Fr h0.size L) T75 (mkF m 106 #[.val (.int p0), .val (.int p1), .val (.int (1 : Int32)), .val (.int (0 : Int32)), .val (.ref b57), .val (.ref b66), .val (.int ((1 : Int32) + (0 : Int32))), .unset, .unset, .unset] [(.ref w_SIGN)])
      refine EKit.astore X75 hx rfl (l' := #[.val (.int p0), .val (.int p1), .val (.int (1 : Int32)), .val (.int (0 : Int32)), .val (.ref b57), .val (.ref b66), .val (.int ((1 : Int32) + (0 : Int32))), .val (.ref w_SIGN), .unset, .unset]) rfl (hb hby at_106) (q := 108) rfl ?_
      refine EKit.aload X75 hx rfl rfl (hb hby at_108) (q := 110) rfl ?_
      refine EKit.ifnonnullYes X75 hx (hb hby at_110) (by decide) (q := 115) (by decide) ?_
      refine EKit.aload X75 hx rfl rfl (hb hby at_115) (q := 117) rfl ?_
      refine EKit.aload X75 hx rfl rfl (hb hby at_117) (q := 119) rfl ?_
      refine EKit.iload X75 hx rfl (hb hby at_119) (q := 121) rfl ?_
      refine EKit.aaload X75 hx hZ e75 rfl V74 (by decide) (by decide) (v := (.ref w_SIGN)) (by first | rfl | simp) (hb hby at_121) (q := 122) rfl ?_
      have h122 : w_SIGN = w_SIGN := rfl
      refine EKit.acmp X75 hx rfl rfl (same := true) (EKit.rr_t h122) (hb hby at_122) (by decide) (q := 127) (by decide) ?_
      refine EKit.aload X75 hx rfl rfl (hb hby at_127) (q := 129) rfl ?_
      refine EKit.iload X75 hx rfl (hb hby at_129) (q := 131) rfl ?_
      refine EKit.aaload X75 hx hZ e75 rfl fV_b57_74 (by decide) (by decide) (v := (.ref b60)) (by first | rfl | simp) (hb hby at_131) (q := 132) rfl ?_
      refine EKit.aload X75 hx rfl rfl (hb hby at_132) (q := 134) rfl ?_
      refine EKit.callV X75 hx hZ hown e75 (y := (⟨"com/example/pubframe/pubframe/message/SecurityMode", "specName", "()Ljava/lang/String;"⟩ : MethodName)) (z := (⟨"com/example/pubframe/pubframe/message/SecurityMode", "specName", "()Ljava/lang/String;"⟩ : MethodName)) (K := "com/example/pubframe/pubframe/message/SecurityMode") (hw _ (List.mem_of_getElem? (i := 27) rfl)) (hw _ (List.mem_of_getElem? (i := 28) rfl)) (notFace_of_selects (args := #[]) (mvT hZ (hw _ (List.mem_of_getElem? (i := 30) rfl)))) (hw _ (List.mem_of_getElem? (i := 30) rfl)) (hw _ (List.mem_of_getElem? (i := 29) rfl)) (hw _ (List.mem_of_getElem? (i := 16) rfl)) (hw _ (List.mem_of_getElem? (i := 31) rfl)) (by decide) (a := w_SIGN) ((E_SIGN.ext EX74)) (argsL := []) (rm2 l Z a0 hw [] w_SIGN h74 sp_SIGN (N_SIGN.ext EX74)) (rest := [(.ref b60)]) (by rw [hml]; rfl) pd___Ljava_lang_String_ rfl (W := 1) (Nat.le_of_eq rfl) (by decide) (by decide) (by decide) (by decide) rfl (hb hby at_134) (q := 137) rfl ?_
      intro T76 v76 L76 X76 hQ76
      obtain ⟨X76, e76, ev76⟩ := EKit.pureK X76 hQ76
      subst ev76
      show EKit.EndsW p l e room_1 s m #[(.int p0), (.int p1)] below meth c room_1.cells room_1.slots (fun v h L => v = some (.int (1 : Int32)) ∧ Fr h0.size L) T76 (mkF m 137 #[.val (.int p0), .val (.int p1), .val (.int (1 : Int32)), .val (.int (0 : Int32)), .val (.ref b57), .val (.ref b66), .val (.int ((1 : Int32) + (0 : Int32))), .val (.ref w_SIGN), .unset, .unset] [(.ref sp_SIGN), (.ref b60)])
      refine EKit.callV X76 hx hZ hown e76 (y := (⟨"java/lang/String", "equals", "(Ljava/lang/Object;)Z"⟩ : MethodName)) (z := (⟨"java/lang/String", "equals", "(Ljava/lang/Object;)Z"⟩ : MethodName)) (K := "java/lang/String") (hw _ (List.mem_of_getElem? (i := 34) rfl)) (hw _ (List.mem_of_getElem? (i := 35) rfl)) (notFace_of_selects (args := #[]) (mvT hZ (hw _ (List.mem_of_getElem? (i := 37) rfl)))) (hw _ (List.mem_of_getElem? (i := 37) rfl)) (hw _ (List.mem_of_getElem? (i := 36) rfl)) (hw _ (List.mem_of_getElem? (i := 3) rfl)) (hw _ (List.mem_of_getElem? (i := 38) rfl)) (by decide) (a := b60) (fE_b60_74) (argsL := [(.ref sp_SIGN)]) (rm3 l Z a0 hw [] b60 sp_SIGN h74 c60 dd_SIGN z_CS (S_CS.ext EX74) P_CS (4 : Int32) own_tS kb60 kk_SIGN fE_b60_74 fF_b60_coder_74 fF_b60_value_74 fV_c60_74 (E_sp_SIGN.ext EX74) (C_sp_SIGN.ext EX74) (B_sp_SIGN.ext EX74) (V_sp_SIGN.ext EX74)) (rest := []) (by rw [hml]; rfl) pd__Ljava_lang_Object__Z rfl (W := 0) (Nat.le_of_eq rfl) (by decide) (by decide) (by decide) (by decide) rfl (hb hby at_137) (q := 140) rfl ?_
      intro T77 v77 L77 X77 hQ77
      obtain ⟨X77, e77, ev77⟩ := EKit.pureK X77 hQ77
      subst ev77
      show EKit.EndsW p l e room_1 s m #[(.int p0), (.int p1)] below meth c room_1.cells room_1.slots (fun v h L => v = some (.int (1 : Int32)) ∧ Fr h0.size L) T77 (mkF m 140 #[.val (.int p0), .val (.int p1), .val (.int (1 : Int32)), .val (.int (0 : Int32)), .val (.ref b57), .val (.ref b66), .val (.int ((1 : Int32) + (0 : Int32))), .val (.ref w_SIGN), .unset, .unset] [(.int (1 : Int32))])
      have h140 : ¬ ((1 : Int32) = (0 : Int32)) := by decide
      refine EKit.ifYes X77 hx (EKit.c_t (feq h140).2) (hb hby at_140) (by decide) (q := 145) (by decide) ?_
      refine EKit.iconst X77 hx (v := (1 : Int32)) rfl (hb hby at_145) (q := 146) rfl ?_
      refine EKit.iloadN X77 hx rfl (hb hby at_146) (q := 147) rfl ?_
      refine EKit.callS X77 hx hZ hown e77 (y := (⟨"com/example/pubframe/pubframe/message/SecurityMode", "of", "(ZZ)Lcom/example/pubframe/pubframe/message/SecurityMode;"⟩ : MethodName)) (hw _ (List.mem_of_getElem? (i := 23) rfl)) (hw _ (List.mem_of_getElem? (i := 24) rfl)) (hw _ (List.mem_of_getElem? (i := 16) rfl)) (hw _ (List.mem_of_getElem? (i := 25) rfl)) (by decide) (argsL := [(.int (1 : Int32)), (.int (0 : Int32))]) (rm1_10 l Z a0 hw [] h74 w_NONE w_SIGN w_SIGN_AND_ENCRYPT (S_NONE.ext EX74) (S_SIGN.ext EX74) (S_SIGN_AND_ENCRYPT.ext EX74)) (rest := []) (by rw [hml]; rfl) pd__ZZ_Lcom_example_pubframe_pubframe_message_SecurityMode_ rfl (W := 0) (Nat.le_of_eq rfl) (by decide) (by decide) (by decide) (by decide) rfl (hb hby at_147) (q := 150) rfl ?_
      intro T78 v78 L78 X78 hQ78
      obtain ⟨X78, e78, ev78⟩ := EKit.pureK X78 hQ78
      subst ev78
      show EKit.EndsW p l e room_1 s m #[(.int p0), (.int p1)] below meth c room_1.cells room_1.slots (fun v h L => v = some (.int (1 : Int32)) ∧ Fr h0.size L) T78 (mkF m 150 #[.val (.int p0), .val (.int p1), .val (.int (1 : Int32)), .val (.int (0 : Int32)), .val (.ref b57), .val (.ref b66), .val (.int ((1 : Int32) + (0 : Int32))), .val (.ref w_SIGN), .unset, .unset] [(.ref w_SIGN)])
      refine EKit.astore X78 hx rfl (l' := #[.val (.int p0), .val (.int p1), .val (.int (1 : Int32)), .val (.int (0 : Int32)), .val (.ref b57), .val (.ref b66), .val (.int ((1 : Int32) + (0 : Int32))), .val (.ref w_SIGN), .val (.ref w_SIGN), .unset]) rfl (hb hby at_150) (q := 152) rfl ?_
      refine EKit.iloadN X78 hx rfl (hb hby at_152) (q := 153) rfl ?_
      refine EKit.iconst X78 hx (v := (1 : Int32)) rfl (hb hby at_153) (q := 154) rfl ?_
      refine EKit.callS X78 hx hZ hown e78 (y := (⟨"com/example/pubframe/pubframe/message/SecurityMode", "of", "(ZZ)Lcom/example/pubframe/pubframe/message/SecurityMode;"⟩ : MethodName)) (hw _ (List.mem_of_getElem? (i := 23) rfl)) (hw _ (List.mem_of_getElem? (i := 24) rfl)) (hw _ (List.mem_of_getElem? (i := 16) rfl)) (hw _ (List.mem_of_getElem? (i := 25) rfl)) (by decide) (argsL := [(.int (1 : Int32)), (.int (1 : Int32))]) (rm1_11 l Z a0 hw [] h74 w_NONE w_SIGN w_SIGN_AND_ENCRYPT (S_NONE.ext EX74) (S_SIGN.ext EX74) (S_SIGN_AND_ENCRYPT.ext EX74)) (rest := []) (by rw [hml]; rfl) pd__ZZ_Lcom_example_pubframe_pubframe_message_SecurityMode_ rfl (W := 0) (Nat.le_of_eq rfl) (by decide) (by decide) (by decide) (by decide) rfl (hb hby at_154) (q := 157) rfl ?_
      intro T79 v79 L79 X79 hQ79
      obtain ⟨X79, e79, ev79⟩ := EKit.pureK X79 hQ79
      subst ev79
      show EKit.EndsW p l e room_1 s m #[(.int p0), (.int p1)] below meth c room_1.cells room_1.slots (fun v h L => v = some (.int (1 : Int32)) ∧ Fr h0.size L) T79 (mkF m 157 #[.val (.int p0), .val (.int p1), .val (.int (1 : Int32)), .val (.int (0 : Int32)), .val (.ref b57), .val (.ref b66), .val (.int ((1 : Int32) + (0 : Int32))), .val (.ref w_SIGN), .val (.ref w_SIGN), .unset] [(.ref w_SIGN_AND_ENCRYPT)])
      refine EKit.astore X79 hx rfl (l' := #[.val (.int p0), .val (.int p1), .val (.int (1 : Int32)), .val (.int (0 : Int32)), .val (.ref b57), .val (.ref b66), .val (.int ((1 : Int32) + (0 : Int32))), .val (.ref w_SIGN), .val (.ref w_SIGN), .val (.ref w_SIGN_AND_ENCRYPT)]) rfl (hb hby at_157) (q := 159) rfl ?_
      refine EKit.aload X79 hx rfl rfl (hb hby at_159) (q := 161) rfl ?_
      refine EKit.ifnullNo X79 hx (hb hby at_161) (q := 164) rfl ?_
      refine EKit.aload X79 hx rfl rfl (hb hby at_164) (q := 166) rfl ?_
      refine EKit.ifnonnullYes X79 hx (hb hby at_166) (by decide) (q := 171) (by decide) ?_
      refine EKit.aload X79 hx rfl rfl (hb hby at_171) (q := 173) rfl ?_
      refine EKit.callS X79 hx hZ hown e79 (y := (⟨"com/example/pubframe/pubframe/message/SecurityModeOfPinLaw", "rank", "(Lcom/example/pubframe/pubframe/message/SecurityMode;)I"⟩ : MethodName)) (hw _ (List.mem_of_getElem? (i := 47) rfl)) (hw _ (List.mem_of_getElem? (i := 48) rfl)) (hw _ (List.mem_of_getElem? (i := 49) rfl)) (hw _ (List.mem_of_getElem? (i := 50) rfl)) (by decide) (argsL := [(.ref w_SIGN)]) (rm5_SIGN l Z a0 hw [] w_SIGN h74 w_NONE w_SIGN_AND_ENCRYPT (S_NONE.ext EX74) (S_SIGN.ext EX74) (S_SIGN_AND_ENCRYPT.ext EX74) ne_SN ne_EN ne_ES) (rest := []) (by rw [hml]; rfl) pd__Lcom_example_pubframe_pubframe_message_SecurityMode__I rfl (W := 0) (Nat.le_of_eq rfl) (by decide) (by decide) (by decide) (by decide) rfl (hb hby at_173) (q := 176) rfl ?_
      intro T80 v80 L80 X80 hQ80
      obtain ⟨X80, e80, ev80⟩ := EKit.pureK X80 hQ80
      subst ev80
      show EKit.EndsW p l e room_1 s m #[(.int p0), (.int p1)] below meth c room_1.cells room_1.slots (fun v h L => v = some (.int (1 : Int32)) ∧ Fr h0.size L) T80 (mkF m 176 #[.val (.int p0), .val (.int p1), .val (.int (1 : Int32)), .val (.int (0 : Int32)), .val (.ref b57), .val (.ref b66), .val (.int ((1 : Int32) + (0 : Int32))), .val (.ref w_SIGN), .val (.ref w_SIGN), .val (.ref w_SIGN_AND_ENCRYPT)] [(.int (1 : Int32))])
      refine EKit.aload X80 hx rfl rfl (hb hby at_176) (q := 178) rfl ?_
      refine EKit.callS X80 hx hZ hown e80 (y := (⟨"com/example/pubframe/pubframe/message/SecurityModeOfPinLaw", "rank", "(Lcom/example/pubframe/pubframe/message/SecurityMode;)I"⟩ : MethodName)) (hw _ (List.mem_of_getElem? (i := 47) rfl)) (hw _ (List.mem_of_getElem? (i := 48) rfl)) (hw _ (List.mem_of_getElem? (i := 49) rfl)) (hw _ (List.mem_of_getElem? (i := 50) rfl)) (by decide) (argsL := [(.ref w_SIGN)]) (rm5_SIGN l Z a0 hw [] w_SIGN h74 w_NONE w_SIGN_AND_ENCRYPT (S_NONE.ext EX74) (S_SIGN.ext EX74) (S_SIGN_AND_ENCRYPT.ext EX74) ne_SN ne_EN ne_ES) (rest := [(.int (1 : Int32))]) (by rw [hml]; rfl) pd__Lcom_example_pubframe_pubframe_message_SecurityMode__I rfl (W := 1) (Nat.le_of_eq rfl) (by decide) (by decide) (by decide) (by decide) rfl (hb hby at_178) (q := 181) rfl ?_
      intro T81 v81 L81 X81 hQ81
      obtain ⟨X81, e81, ev81⟩ := EKit.pureK X81 hQ81
      subst ev81
      show EKit.EndsW p l e room_1 s m #[(.int p0), (.int p1)] below meth c room_1.cells room_1.slots (fun v h L => v = some (.int (1 : Int32)) ∧ Fr h0.size L) T81 (mkF m 181 #[.val (.int p0), .val (.int p1), .val (.int (1 : Int32)), .val (.int (0 : Int32)), .val (.ref b57), .val (.ref b66), .val (.int ((1 : Int32) + (0 : Int32))), .val (.ref w_SIGN), .val (.ref w_SIGN), .val (.ref w_SIGN_AND_ENCRYPT)] [(.int (1 : Int32)), (.int (1 : Int32))])
      have h181 : ¬ ((1 : Int32) < (1 : Int32)) := by decide
      refine EKit.icmpNo X81 hx ((flt h181).1) (hb hby at_181) (q := 184) rfl ?_
      refine EKit.aload X81 hx rfl rfl (hb hby at_184) (q := 186) rfl ?_
      refine EKit.callS X81 hx hZ hown e81 (y := (⟨"com/example/pubframe/pubframe/message/SecurityModeOfPinLaw", "rank", "(Lcom/example/pubframe/pubframe/message/SecurityMode;)I"⟩ : MethodName)) (hw _ (List.mem_of_getElem? (i := 47) rfl)) (hw _ (List.mem_of_getElem? (i := 48) rfl)) (hw _ (List.mem_of_getElem? (i := 49) rfl)) (hw _ (List.mem_of_getElem? (i := 50) rfl)) (by decide) (argsL := [(.ref w_SIGN_AND_ENCRYPT)]) (rm5_SIGN_AND_ENCRYPT l Z a0 hw [] w_SIGN_AND_ENCRYPT h74 w_NONE w_SIGN (S_NONE.ext EX74) (S_SIGN.ext EX74) (S_SIGN_AND_ENCRYPT.ext EX74) ne_SN ne_EN ne_ES) (rest := []) (by rw [hml]; rfl) pd__Lcom_example_pubframe_pubframe_message_SecurityMode__I rfl (W := 0) (Nat.le_of_eq rfl) (by decide) (by decide) (by decide) (by decide) rfl (hb hby at_186) (q := 189) rfl ?_
      intro T82 v82 L82 X82 hQ82
      obtain ⟨X82, e82, ev82⟩ := EKit.pureK X82 hQ82
      subst ev82
      show EKit.EndsW p l e room_1 s m #[(.int p0), (.int p1)] below meth c room_1.cells room_1.slots (fun v h L => v = some (.int (1 : Int32)) ∧ Fr h0.size L) T82 (mkF m 189 #[.val (.int p0), .val (.int p1), .val (.int (1 : Int32)), .val (.int (0 : Int32)), .val (.ref b57), .val (.ref b66), .val (.int ((1 : Int32) + (0 : Int32))), .val (.ref w_SIGN), .val (.ref w_SIGN), .val (.ref w_SIGN_AND_ENCRYPT)] [(.int (2 : Int32))])
      refine EKit.aload X82 hx rfl rfl (hb hby at_189) (q := 191) rfl ?_
      refine EKit.callS X82 hx hZ hown e82 (y := (⟨"com/example/pubframe/pubframe/message/SecurityModeOfPinLaw", "rank", "(Lcom/example/pubframe/pubframe/message/SecurityMode;)I"⟩ : MethodName)) (hw _ (List.mem_of_getElem? (i := 47) rfl)) (hw _ (List.mem_of_getElem? (i := 48) rfl)) (hw _ (List.mem_of_getElem? (i := 49) rfl)) (hw _ (List.mem_of_getElem? (i := 50) rfl)) (by decide) (argsL := [(.ref w_SIGN)]) (rm5_SIGN l Z a0 hw [] w_SIGN h74 w_NONE w_SIGN_AND_ENCRYPT (S_NONE.ext EX74) (S_SIGN.ext EX74) (S_SIGN_AND_ENCRYPT.ext EX74) ne_SN ne_EN ne_ES) (rest := [(.int (2 : Int32))]) (by rw [hml]; rfl) pd__Lcom_example_pubframe_pubframe_message_SecurityMode__I rfl (W := 1) (Nat.le_of_eq rfl) (by decide) (by decide) (by decide) (by decide) rfl (hb hby at_191) (q := 194) rfl ?_
      intro T83 v83 L83 X83 hQ83
      obtain ⟨X83, e83, ev83⟩ := EKit.pureK X83 hQ83
      subst ev83
      show EKit.EndsW p l e room_1 s m #[(.int p0), (.int p1)] below meth c room_1.cells room_1.slots (fun v h L => v = some (.int (1 : Int32)) ∧ Fr h0.size L) T83 (mkF m 194 #[.val (.int p0), .val (.int p1), .val (.int (1 : Int32)), .val (.int (0 : Int32)), .val (.ref b57), .val (.ref b66), .val (.int ((1 : Int32) + (0 : Int32))), .val (.ref w_SIGN), .val (.ref w_SIGN), .val (.ref w_SIGN_AND_ENCRYPT)] [(.int (1 : Int32)), (.int (2 : Int32))])
      have h194 : ¬ ((2 : Int32) < (1 : Int32)) := by decide
      refine EKit.icmpNo X83 hx ((flt h194).1) (hb hby at_194) (q := 197) rfl ?_
      refine EKit.aload X83 hx rfl rfl (hb hby at_197) (q := 199) rfl ?_
      refine EKit.callS X83 hx hZ hown e83 (y := (⟨"com/example/pubframe/pubframe/message/SecurityModeOfPinLaw", "rank", "(Lcom/example/pubframe/pubframe/message/SecurityMode;)I"⟩ : MethodName)) (hw _ (List.mem_of_getElem? (i := 47) rfl)) (hw _ (List.mem_of_getElem? (i := 48) rfl)) (hw _ (List.mem_of_getElem? (i := 49) rfl)) (hw _ (List.mem_of_getElem? (i := 50) rfl)) (by decide) (argsL := [(.ref w_SIGN)]) (rm5_SIGN l Z a0 hw [] w_SIGN h74 w_NONE w_SIGN_AND_ENCRYPT (S_NONE.ext EX74) (S_SIGN.ext EX74) (S_SIGN_AND_ENCRYPT.ext EX74) ne_SN ne_EN ne_ES) (rest := []) (by rw [hml]; rfl) pd__Lcom_example_pubframe_pubframe_message_SecurityMode__I rfl (W := 0) (Nat.le_of_eq rfl) (by decide) (by decide) (by decide) (by decide) rfl (hb hby at_199) (q := 202) rfl ?_
      intro T84 v84 L84 X84 hQ84
      obtain ⟨X84, e84, ev84⟩ := EKit.pureK X84 hQ84
      subst ev84
      show EKit.EndsW p l e room_1 s m #[(.int p0), (.int p1)] below meth c room_1.cells room_1.slots (fun v h L => v = some (.int (1 : Int32)) ∧ Fr h0.size L) T84 (mkF m 202 #[.val (.int p0), .val (.int p1), .val (.int (1 : Int32)), .val (.int (0 : Int32)), .val (.ref b57), .val (.ref b66), .val (.int ((1 : Int32) + (0 : Int32))), .val (.ref w_SIGN), .val (.ref w_SIGN), .val (.ref w_SIGN_AND_ENCRYPT)] [(.int (1 : Int32))])
      have h202 : ¬ ((1 : Int32) < (0 : Int32)) := by decide
      refine EKit.ifNo X84 hx (EKit.c_t (flt h202).1) (hb hby at_202) (q := 205) rfl ?_
      refine EKit.iconst X84 hx (v := (1 : Int32)) rfl (hb hby at_205) (q := 206) rfl ?_
      refine EKit.goto X84 hx (hb hby at_206) (by decide) (q := 210) (by decide) ?_
      exact EKit.toW hS62 (EKit.retZ X84 hx hret (by simp) (hb hby at_210) (⟨⟨rfl, Fr.nil _⟩, by rw [e84]; exact fI_sz_74⟩) (by decide) (by decide))
    · skip
      refine EKit.ifNo X0 hx (EKit.c_t (feq h15).1) (hb hby at_15) (q := 18) rfl ?_
      refine EKit.iconst X0 hx (v := (1 : Int32)) rfl (hb hby at_18) (q := 19) rfl ?_
      refine EKit.goto X0 hx (hb hby at_19) (by decide) (q := 23) (by decide) ?_
      refine EKit.istoreN X0 hx (l' := #[.val (.int p0), .val (.int p1), .val (.int (1 : Int32)), .val (.int (1 : Int32)), .unset, .unset, .unset, .unset, .unset, .unset]) rfl (hb hby at_23) (q := 24) rfl ?_
      refine EKit.iconst X0 hx (v := (4 : Int32)) rfl (hb hby at_24) (q := 25) rfl ?_
      refine EKit.newref X0 hx hZ hown e0 (hw _ (List.mem_of_getElem? (i := 0) rfl)) (hw _ (List.mem_of_getElem? (i := 1) rfl)) (by decide) (cap := 4) (by decide) (by decide) (by decide) (by decide) (hb hby at_25) (q := 28) rfl ?_
      intro T85 h85 b85 k85 X85 e85 E85 g85 O85 V85
      have V85 : Ary Z h85 b85 k85 (.object "java/lang/String") (4 : Int32) (fun _ => .null) := V85
      have gn_b85 : h0.size ≤ b85 := Nat.le_trans (Nat.le_refl _) (Nat.le_of_eq g85.symm)
      have sz85 : h0.size ≤ h85.size := Nat.le_trans (Nat.le_refl _) E85.1
      have EX85 := E85
      show EKit.EndsW p l e room_1 s m #[(.int p0), (.int p1)] below meth c room_1.cells room_1.slots (fun v h L => v = some (.int (1 : Int32)) ∧ Fr h0.size L) T85 (mkF m 28 #[.val (.int p0), .val (.int p1), .val (.int (1 : Int32)), .val (.int (1 : Int32)), .unset, .unset, .unset, .unset, .unset, .unset] [(.ref b85)])
      refine EKit.dup X85 hx rfl (hb hby at_28) (q := 29) rfl ?_
      refine EKit.iconst X85 hx (v := (0 : Int32)) rfl (hb hby at_29) (q := 30) rfl ?_
      obtain ⟨b86, T86, h86, kq86, c86, kb86, X86, e86, E86, hS86, hk86, hZ, hown, A86, Fc86, Fv86, Vb86, lt86, ltc86, I86, Li86, st86⟩ := ldcSVL (s := s) (vm0 := s.vm) X85 hx hZ hown (hw _ (List.mem_of_getElem? (i := 2) rfl)) own_sa e85 (State.WarmedH.since (State.WarmedH.refl s) 0) (Nat.zero_le _) (Fr.nil _) (fun _ _ q => by rw [hhz]; exact q) own_I (by decide) hh_NONE hcw (vs := [.int (78 : Int32), .int (111 : Int32), .int (110 : Int32), .int (101 : Int32)]) (z := (4 : Int32)) ⟨by decide, by decide +kernel⟩ (by decide) rfl (g := (mkF m 30 #[.val (.int p0), .val (.int p1), .val (.int (1 : Int32)), .val (.int (1 : Int32)), .unset, .unset, .unset, .unset, .unset, .unset] [(.int (0 : Int32)), (.ref b85), (.ref b85)])) rfl (hb hby at_30) (n := 16) (by decide) (by decide) (by decide) (by decide)
      have hs0 : (s.setVm T86.vm).heap = h0 := hs0
      have sz86 : h0.size ≤ h86.size := Nat.le_trans sz85 E86.1
      have fV_b85_86 := V85.ext E86
      have V86 : Ary Z h86 c86 kb86 .byte (4 : Int32) (fun j => .int (own_tN j)) := EKit.Ary.ofArv Vb86 (own_at_own_tN)
      have ne_b86_b85 : b86 ≠ b85 := EKit.Exa.ne_ary A86 (hw _ (List.mem_of_getElem? (i := 4) rfl)) fV_b85_86
      have ne_c86_b85 : c86 ≠ b85 := EKit.Ary.ne_ty V86 fV_b85_86 (by decide)
      have zz86 : EKit.Sz kq86 h86 := hk86
      have EX86 := EKit.Ext_trans EX85 E86
      refine EKit.step st86 ?_
      show EKit.EndsW p l e room_1 s m #[(.int p0), (.int p1)] below meth c room_1.cells room_1.slots (fun v h L => v = some (.int (1 : Int32)) ∧ Fr h0.size L) T86 (mkF m 32 #[.val (.int p0), .val (.int p1), .val (.int (1 : Int32)), .val (.int (1 : Int32)), .unset, .unset, .unset, .unset, .unset, .unset] [(.ref b86), (.int (0 : Int32)), (.ref b85), (.ref b85)])
      refine EKit.aastore X86 hx hZ e86 fV_b85_86 O85 (Ins.self A86) (by decide) (by decide) (hb hby at_32) (q := 33) rfl ?_
      intro T87 h87 X87 e87 W87 V87
      have X87 := Stand.forget X87 (fun y hy => by cases List.mem_singleton.mp hy; rw [hs0]; exact gn_b85)
      have sz87 : h0.size ≤ h87.size := Nat.le_trans sz86 (Keep.of_wr W87).1
      have fE_b86_87 := A86.wr W87
      have fF_b86_coder_87 := Fc86.other W87 (Or.inl (ne_b86_b85))
      have fF_b86_value_87 := Fv86.other W87 (Or.inl (ne_b86_b85))
      have fV_c86_87 := V86.other W87 (ne_c86_b85)
      have fI_sz_87 := zz86.wr W87
      have EX87 := EKit.Ext_wr EX86 W87 gn_b85
      refine EKit.dup X87 hx rfl (hb hby at_33) (q := 34) rfl ?_
      refine EKit.iconst X87 hx (v := (1 : Int32)) rfl (hb hby at_34) (q := 35) rfl ?_
      obtain ⟨b88, T88, h88, kq88, c88, kb88, X88, e88, E88, hS88, hk88, hZ, hown, A88, Fc88, Fv88, Vb88, lt88, ltc88, I88, Li88, st88⟩ := ldcSVL (s := s) (vm0 := T86.vm) X87 hx hZ hown (hw _ (List.mem_of_getElem? (i := 11) rfl)) own_sa e87 hS86 fI_sz_87 (Fr.nil _) (fun _ _ q => by rw [hhz]; exact q) I86 (by decide) hh_SIGN hcw (vs := [.int (83 : Int32), .int (105 : Int32), .int (103 : Int32), .int (110 : Int32)]) (z := (4 : Int32)) ⟨by decide, by decide +kernel⟩ (by decide) rfl (g := (mkF m 35 #[.val (.int p0), .val (.int p1), .val (.int (1 : Int32)), .val (.int (1 : Int32)), .unset, .unset, .unset, .unset, .unset, .unset] [(.int (1 : Int32)), (.ref b85), (.ref b85)])) rfl (hb hby at_35) (n := 16) (by decide) (by decide) (by decide) (by decide)
      have hs0 : (s.setVm T88.vm).heap = h0 := hs0
      have sz88 : h0.size ≤ h88.size := Nat.le_trans sz87 E88.1
      have fV_b85_88 := V87.ext E88
      have fE_b86_88 := fE_b86_87.ext E88
      have fF_b86_coder_88 := fF_b86_coder_87.ext E88
      have fF_b86_value_88 := fF_b86_value_87.ext E88
      have fV_c86_88 := fV_c86_87.ext E88
      have fI_sz_88 := fI_sz_87.ext E88
      have V88 : Ary Z h88 c88 kb88 .byte (4 : Int32) (fun j => .int (own_tS j)) := EKit.Ary.ofArv Vb88 (own_at_own_tS)
      have ne_b88_b85 : b88 ≠ b85 := EKit.Exa.ne_ary A88 (hw _ (List.mem_of_getElem? (i := 4) rfl)) fV_b85_88
      have ne_c88_b85 : c88 ≠ b85 := EKit.Ary.ne_ty V88 fV_b85_88 (by decide)
      have zz88 : EKit.Sz kq88 h88 := hk88
      have EX88 := EKit.Ext_trans EX87 E88
      refine EKit.step st88 ?_
      show EKit.EndsW p l e room_1 s m #[(.int p0), (.int p1)] below meth c room_1.cells room_1.slots (fun v h L => v = some (.int (1 : Int32)) ∧ Fr h0.size L) T88 (mkF m 37 #[.val (.int p0), .val (.int p1), .val (.int (1 : Int32)), .val (.int (1 : Int32)), .unset, .unset, .unset, .unset, .unset, .unset] [(.ref b88), (.int (1 : Int32)), (.ref b85), (.ref b85)])
      refine EKit.aastore X88 hx hZ e88 fV_b85_88 O85 (Ins.self A88) (by decide) (by decide) (hb hby at_37) (q := 38) rfl ?_
      intro T89 h89 X89 e89 W89 V89
      have X89 := Stand.forget X89 (fun y hy => by cases List.mem_singleton.mp hy; rw [hs0]; exact gn_b85)
      have sz89 : h0.size ≤ h89.size := Nat.le_trans sz88 (Keep.of_wr W89).1
      have fE_b86_89 := fE_b86_88.wr W89
      have fF_b86_coder_89 := fF_b86_coder_88.other W89 (Or.inl (ne_b86_b85))
      have fF_b86_value_89 := fF_b86_value_88.other W89 (Or.inl (ne_b86_b85))
      have fV_c86_89 := fV_c86_88.other W89 (ne_c86_b85)
      have fE_b88_89 := A88.wr W89
      have fF_b88_coder_89 := Fc88.other W89 (Or.inl (ne_b88_b85))
      have fF_b88_value_89 := Fv88.other W89 (Or.inl (ne_b88_b85))
      have fV_c88_89 := V88.other W89 (ne_c88_b85)
      have fI_sz_89 := zz88.wr W89
      have EX89 := EKit.Ext_wr EX88 W89 gn_b85
      refine EKit.dup X89 hx rfl (hb hby at_38) (q := 39) rfl ?_
      refine EKit.iconst X89 hx (v := (2 : Int32)) rfl (hb hby at_39) (q := 40) rfl ?_
      obtain ⟨b90, T90, h90, kq90, c90, kb90, X90, e90, E90, hS90, hk90, hZ, hown, A90, Fc90, Fv90, Vb90, lt90, ltc90, I90, Li90, st90⟩ := ldcSVL (s := s) (vm0 := T88.vm) X89 hx hZ hown (hw _ (List.mem_of_getElem? (i := 12) rfl)) own_sa e89 hS88 fI_sz_89 (Fr.nil _) (fun _ _ q => by rw [hhz]; exact q) I88 (by decide) hh_SIGN_AND_ENCRYPT hcw (vs := [.int (83 : Int32), .int (105 : Int32), .int (103 : Int32), .int (110 : Int32), .int (65 : Int32), .int (110 : Int32), .int (100 : Int32), .int (69 : Int32), .int (110 : Int32), .int (99 : Int32), .int (114 : Int32), .int (121 : Int32), .int (112 : Int32), .int (116 : Int32)]) (z := (14 : Int32)) ⟨by decide, by decide +kernel⟩ (by decide) rfl (g := (mkF m 40 #[.val (.int p0), .val (.int p1), .val (.int (1 : Int32)), .val (.int (1 : Int32)), .unset, .unset, .unset, .unset, .unset, .unset] [(.int (2 : Int32)), (.ref b85), (.ref b85)])) rfl (hb hby at_40) (n := 56) (by decide) (by decide) (by decide) (by decide)
      have hs0 : (s.setVm T90.vm).heap = h0 := hs0
      have sz90 : h0.size ≤ h90.size := Nat.le_trans sz89 E90.1
      have fV_b85_90 := V89.ext E90
      have fE_b86_90 := fE_b86_89.ext E90
      have fF_b86_coder_90 := fF_b86_coder_89.ext E90
      have fF_b86_value_90 := fF_b86_value_89.ext E90
      have fV_c86_90 := fV_c86_89.ext E90
      have fE_b88_90 := fE_b88_89.ext E90
      have fF_b88_coder_90 := fF_b88_coder_89.ext E90
      have fF_b88_value_90 := fF_b88_value_89.ext E90
      have fV_c88_90 := fV_c88_89.ext E90
      have fI_sz_90 := fI_sz_89.ext E90
      have V90 : Ary Z h90 c90 kb90 .byte (14 : Int32) (fun j => .int (own_tE j)) := EKit.Ary.ofArv Vb90 (own_at_own_tE)
      have ne_b90_b85 : b90 ≠ b85 := EKit.Exa.ne_ary A90 (hw _ (List.mem_of_getElem? (i := 4) rfl)) fV_b85_90
      have ne_c90_b85 : c90 ≠ b85 := EKit.Ary.ne_ty V90 fV_b85_90 (by decide)
      have zz90 : EKit.Sz kq90 h90 := hk90
      have EX90 := EKit.Ext_trans EX89 E90
      refine EKit.step st90 ?_
      show EKit.EndsW p l e room_1 s m #[(.int p0), (.int p1)] below meth c room_1.cells room_1.slots (fun v h L => v = some (.int (1 : Int32)) ∧ Fr h0.size L) T90 (mkF m 42 #[.val (.int p0), .val (.int p1), .val (.int (1 : Int32)), .val (.int (1 : Int32)), .unset, .unset, .unset, .unset, .unset, .unset] [(.ref b90), (.int (2 : Int32)), (.ref b85), (.ref b85)])
      refine EKit.aastore X90 hx hZ e90 fV_b85_90 O85 (Ins.self A90) (by decide) (by decide) (hb hby at_42) (q := 43) rfl ?_
      intro T91 h91 X91 e91 W91 V91
      have X91 := Stand.forget X91 (fun y hy => by cases List.mem_singleton.mp hy; rw [hs0]; exact gn_b85)
      have sz91 : h0.size ≤ h91.size := Nat.le_trans sz90 (Keep.of_wr W91).1
      have fE_b86_91 := fE_b86_90.wr W91
      have fF_b86_coder_91 := fF_b86_coder_90.other W91 (Or.inl (ne_b86_b85))
      have fF_b86_value_91 := fF_b86_value_90.other W91 (Or.inl (ne_b86_b85))
      have fV_c86_91 := fV_c86_90.other W91 (ne_c86_b85)
      have fE_b88_91 := fE_b88_90.wr W91
      have fF_b88_coder_91 := fF_b88_coder_90.other W91 (Or.inl (ne_b88_b85))
      have fF_b88_value_91 := fF_b88_value_90.other W91 (Or.inl (ne_b88_b85))
      have fV_c88_91 := fV_c88_90.other W91 (ne_c88_b85)
      have fE_b90_91 := A90.wr W91
      have fF_b90_coder_91 := Fc90.other W91 (Or.inl (ne_b90_b85))
      have fF_b90_value_91 := Fv90.other W91 (Or.inl (ne_b90_b85))
      have fV_c90_91 := V90.other W91 (ne_c90_b85)
      have fI_sz_91 := zz90.wr W91
      have EX91 := EKit.Ext_wr EX90 W91 gn_b85
      refine EKit.dup X91 hx rfl (hb hby at_43) (q := 44) rfl ?_
      refine EKit.iconst X91 hx (v := (3 : Int32)) rfl (hb hby at_44) (q := 45) rfl ?_
      refine EKit.step (ldcAgain (s := s) (vm0 := T90.vm) X91 hx hZ hown (hw _ (List.mem_of_getElem? (i := 12) rfl)) Li90 (g := (mkF m 45 #[.val (.int p0), .val (.int p1), .val (.int (1 : Int32)), .val (.int (1 : Int32)), .unset, .unset, .unset, .unset, .unset, .unset] [(.int (3 : Int32)), (.ref b85), (.ref b85)])) rfl (hb hby at_45)) ?_
      show EKit.EndsW p l e room_1 s m #[(.int p0), (.int p1)] below meth c room_1.cells room_1.slots (fun v h L => v = some (.int (1 : Int32)) ∧ Fr h0.size L) T91 (mkF m 47 #[.val (.int p0), .val (.int p1), .val (.int (1 : Int32)), .val (.int (1 : Int32)), .unset, .unset, .unset, .unset, .unset, .unset] [(.ref b90), (.int (3 : Int32)), (.ref b85), (.ref b85)])
      refine EKit.aastore X91 hx hZ e91 V91 O85 (Ins.self fE_b90_91) (by decide) (by decide) (hb hby at_47) (q := 48) rfl ?_
      intro T93 h93 X93 e93 W93 V93
      have X93 := Stand.forget X93 (fun y hy => by cases List.mem_singleton.mp hy; rw [hs0]; exact gn_b85)
      have sz93 : h0.size ≤ h93.size := Nat.le_trans sz91 (Keep.of_wr W93).1
      have fE_b86_93 := fE_b86_91.wr W93
      have fF_b86_coder_93 := fF_b86_coder_91.other W93 (Or.inl (ne_b86_b85))
      have fF_b86_value_93 := fF_b86_value_91.other W93 (Or.inl (ne_b86_b85))
      have fV_c86_93 := fV_c86_91.other W93 (ne_c86_b85)
      have fE_b88_93 := fE_b88_91.wr W93
      have fF_b88_coder_93 := fF_b88_coder_91.other W93 (Or.inl (ne_b88_b85))
      have fF_b88_value_93 := fF_b88_value_91.other W93 (Or.inl (ne_b88_b85))
      have fV_c88_93 := fV_c88_91.other W93 (ne_c88_b85)
      have fE_b90_93 := fE_b90_91.wr W93
      have fF_b90_coder_93 := fF_b90_coder_91.other W93 (Or.inl (ne_b90_b85))
      have fF_b90_value_93 := fF_b90_value_91.other W93 (Or.inl (ne_b90_b85))
      have fV_c90_93 := fV_c90_91.other W93 (ne_c90_b85)
      have fI_sz_93 := fI_sz_91.wr W93
      have EX93 := EKit.Ext_wr EX91 W93 gn_b85
      refine EKit.astore X93 hx rfl (l' := #[.val (.int p0), .val (.int p1), .val (.int (1 : Int32)), .val (.int (1 : Int32)), .val (.ref b85), .unset, .unset, .unset, .unset, .unset]) rfl (hb hby at_48) (q := 50) rfl ?_
      refine EKit.iconst X93 hx (v := (4 : Int32)) rfl (hb hby at_50) (q := 51) rfl ?_
      refine EKit.newref X93 hx hZ hown e93 (hw _ (List.mem_of_getElem? (i := 13) rfl)) (hw _ (List.mem_of_getElem? (i := 14) rfl)) (by decide) (cap := 4) (by decide) (by decide) (by decide) (by decide) (hb hby at_51) (q := 54) rfl ?_
      intro T94 h94 b94 k94 X94 e94 E94 g94 O94 V94
      have V94 : Ary Z h94 b94 k94 (.object "com/example/pubframe/pubframe/message/SecurityMode") (4 : Int32) (fun _ => .null) := V94
      have gn_b94 : h0.size ≤ b94 := Nat.le_trans sz93 (Nat.le_of_eq g94.symm)
      have sz94 : h0.size ≤ h94.size := Nat.le_trans sz93 E94.1
      have ne_b85_b94 : b85 ≠ b94 := Nat.ne_of_lt (Nat.lt_of_lt_of_le (V93).lt (Nat.le_of_eq g94.symm))
      have ne_b94_b85 : b94 ≠ b85 := Ne.symm ne_b85_b94
      have ne_b86_b94 : b86 ≠ b94 := Nat.ne_of_lt (Nat.lt_of_lt_of_le (fE_b86_93).lt (Nat.le_of_eq g94.symm))
      have ne_b94_b86 : b94 ≠ b86 := Ne.symm ne_b86_b94
      have ne_c86_b94 : c86 ≠ b94 := Nat.ne_of_lt (Nat.lt_of_lt_of_le (fV_c86_93).lt (Nat.le_of_eq g94.symm))
      have ne_b94_c86 : b94 ≠ c86 := Ne.symm ne_c86_b94
      have ne_b88_b94 : b88 ≠ b94 := Nat.ne_of_lt (Nat.lt_of_lt_of_le (fE_b88_93).lt (Nat.le_of_eq g94.symm))
      have ne_b94_b88 : b94 ≠ b88 := Ne.symm ne_b88_b94
      have ne_c88_b94 : c88 ≠ b94 := Nat.ne_of_lt (Nat.lt_of_lt_of_le (fV_c88_93).lt (Nat.le_of_eq g94.symm))
      have ne_b94_c88 : b94 ≠ c88 := Ne.symm ne_c88_b94
      have ne_b90_b94 : b90 ≠ b94 := Nat.ne_of_lt (Nat.lt_of_lt_of_le (fE_b90_93).lt (Nat.le_of_eq g94.symm))
      have ne_b94_b90 : b94 ≠ b90 := Ne.symm ne_b90_b94
      have ne_c90_b94 : c90 ≠ b94 := Nat.ne_of_lt (Nat.lt_of_lt_of_le (fV_c90_93).lt (Nat.le_of_eq g94.symm))
      have ne_b94_c90 : b94 ≠ c90 := Ne.symm ne_c90_b94
      have fV_b85_94 := V93.ext E94
      have fE_b86_94 := fE_b86_93.ext E94
      have fF_b86_coder_94 := fF_b86_coder_93.ext E94
      have fF_b86_value_94 := fF_b86_value_93.ext E94
      have fV_c86_94 := fV_c86_93.ext E94
      have fE_b88_94 := fE_b88_93.ext E94
      have fF_b88_coder_94 := fF_b88_coder_93.ext E94
      have fF_b88_value_94 := fF_b88_value_93.ext E94
      have fV_c88_94 := fV_c88_93.ext E94
      have fE_b90_94 := fE_b90_93.ext E94
      have fF_b90_coder_94 := fF_b90_coder_93.ext E94
      have fF_b90_value_94 := fF_b90_value_93.ext E94
      have fV_c90_94 := fV_c90_93.ext E94
      have fI_sz_94 := fI_sz_93.ext E94
      have EX94 := EKit.Ext_trans EX93 E94
      show EKit.EndsW p l e room_1 s m #[(.int p0), (.int p1)] below meth c room_1.cells room_1.slots (fun v h L => v = some (.int (1 : Int32)) ∧ Fr h0.size L) T94 (mkF m 54 #[.val (.int p0), .val (.int p1), .val (.int (1 : Int32)), .val (.int (1 : Int32)), .val (.ref b85), .unset, .unset, .unset, .unset, .unset] [(.ref b94)])
      refine EKit.dup X94 hx rfl (hb hby at_54) (q := 55) rfl ?_
      refine EKit.iconst X94 hx (v := (0 : Int32)) rfl (hb hby at_55) (q := 56) rfl ?_
      obtain ⟨T95, X95, e95, st95⟩ := getS X94 hx hZ (host := "") hown (hw _ (List.mem_of_getElem? (i := 15) rfl)) Via.refl e94 (S_NONE.ext EX94) (g := (mkF m 56 #[.val (.int p0), .val (.int p1), .val (.int (1 : Int32)), .val (.int (1 : Int32)), .val (.ref b85), .unset, .unset, .unset, .unset, .unset] [(.int (0 : Int32)), (.ref b94), (.ref b94)])) rfl (hb hby at_56)
      refine EKit.step st95 ?_
      show EKit.EndsW p l e room_1 s m #[(.int p0), (.int p1)] below meth c room_1.cells room_1.slots (fun v h L => v = some (.int (1 : Int32)) ∧ Fr h0.size L) T95 (mkF m 59 #[.val (.int p0), .val (.int p1), .val (.int (1 : Int32)), .val (.int (1 : Int32)), .val (.ref b85), .unset, .unset, .unset, .unset, .unset] [(.ref w_NONE), (.int (0 : Int32)), (.ref b94), (.ref b94)])
      refine EKit.aastore X95 hx hZ e95 V94 O94 (Ins.self (E_NONE.ext EX94)) (by decide) (by decide) (hb hby at_59) (q := 60) rfl ?_
      intro T96 h96 X96 e96 W96 V96
      have X96 := Stand.forget X96 (fun y hy => by cases List.mem_singleton.mp hy; rw [hs0]; exact gn_b94)
      have sz96 : h0.size ≤ h96.size := Nat.le_trans sz94 (Keep.of_wr W96).1
      have fV_b85_96 := fV_b85_94.other W96 (ne_b85_b94)
      have fE_b86_96 := fE_b86_94.wr W96
      have fF_b86_coder_96 := fF_b86_coder_94.other W96 (Or.inl (ne_b86_b94))
      have fF_b86_value_96 := fF_b86_value_94.other W96 (Or.inl (ne_b86_b94))
      have fV_c86_96 := fV_c86_94.other W96 (ne_c86_b94)
      have fE_b88_96 := fE_b88_94.wr W96
      have fF_b88_coder_96 := fF_b88_coder_94.other W96 (Or.inl (ne_b88_b94))
      have fF_b88_value_96 := fF_b88_value_94.other W96 (Or.inl (ne_b88_b94))
      have fV_c88_96 := fV_c88_94.other W96 (ne_c88_b94)
      have fE_b90_96 := fE_b90_94.wr W96
      have fF_b90_coder_96 := fF_b90_coder_94.other W96 (Or.inl (ne_b90_b94))
      have fF_b90_value_96 := fF_b90_value_94.other W96 (Or.inl (ne_b90_b94))
      have fV_c90_96 := fV_c90_94.other W96 (ne_c90_b94)
      have fI_sz_96 := fI_sz_94.wr W96
      have EX96 := EKit.Ext_wr EX94 W96 gn_b94
      refine EKit.dup X96 hx rfl (hb hby at_60) (q := 61) rfl ?_
      refine EKit.iconst X96 hx (v := (1 : Int32)) rfl (hb hby at_61) (q := 62) rfl ?_
      obtain ⟨T97, X97, e97, st97⟩ := getS X96 hx hZ (host := "") hown (hw _ (List.mem_of_getElem? (i := 19) rfl)) Via.refl e96 (S_SIGN.ext EX96) (g := (mkF m 62 #[.val (.int p0), .val (.int p1), .val (.int (1 : Int32)), .val (.int (1 : Int32)), .val (.ref b85), .unset, .unset, .unset, .unset, .unset] [(.int (1 : Int32)), (.ref b94), (.ref b94)])) rfl (hb hby at_62)
      refine EKit.step st97 ?_
      show EKit.EndsW p l e room_1 s m #[(.int p0), (.int p1)] below meth c room_1.cells room_1.slots (fun v h L => v = some (.int (1 : Int32)) ∧ Fr h0.size L) T97 (mkF m 65 #[.val (.int p0), .val (.int p1), .val (.int (1 : Int32)), .val (.int (1 : Int32)), .val (.ref b85), .unset, .unset, .unset, .unset, .unset] [(.ref w_SIGN), (.int (1 : Int32)), (.ref b94), (.ref b94)])
      refine EKit.aastore X97 hx hZ e97 V96 O94 (Ins.self (E_SIGN.ext EX96)) (by decide) (by decide) (hb hby at_65) (q := 66) rfl ?_
      intro T98 h98 X98 e98 W98 V98
      have X98 := Stand.forget X98 (fun y hy => by cases List.mem_singleton.mp hy; rw [hs0]; exact gn_b94)
      have sz98 : h0.size ≤ h98.size := Nat.le_trans sz96 (Keep.of_wr W98).1
      have fV_b85_98 := fV_b85_96.other W98 (ne_b85_b94)
      have fE_b86_98 := fE_b86_96.wr W98
      have fF_b86_coder_98 := fF_b86_coder_96.other W98 (Or.inl (ne_b86_b94))
      have fF_b86_value_98 := fF_b86_value_96.other W98 (Or.inl (ne_b86_b94))
      have fV_c86_98 := fV_c86_96.other W98 (ne_c86_b94)
      have fE_b88_98 := fE_b88_96.wr W98
      have fF_b88_coder_98 := fF_b88_coder_96.other W98 (Or.inl (ne_b88_b94))
      have fF_b88_value_98 := fF_b88_value_96.other W98 (Or.inl (ne_b88_b94))
      have fV_c88_98 := fV_c88_96.other W98 (ne_c88_b94)
      have fE_b90_98 := fE_b90_96.wr W98
      have fF_b90_coder_98 := fF_b90_coder_96.other W98 (Or.inl (ne_b90_b94))
      have fF_b90_value_98 := fF_b90_value_96.other W98 (Or.inl (ne_b90_b94))
      have fV_c90_98 := fV_c90_96.other W98 (ne_c90_b94)
      have fI_sz_98 := fI_sz_96.wr W98
      have EX98 := EKit.Ext_wr EX96 W98 gn_b94
      refine EKit.dup X98 hx rfl (hb hby at_66) (q := 67) rfl ?_
      refine EKit.iconst X98 hx (v := (2 : Int32)) rfl (hb hby at_67) (q := 68) rfl ?_
      obtain ⟨T99, X99, e99, st99⟩ := getS X98 hx hZ (host := "") hown (hw _ (List.mem_of_getElem? (i := 21) rfl)) Via.refl e98 (S_SIGN_AND_ENCRYPT.ext EX98) (g := (mkF m 68 #[.val (.int p0), .val (.int p1), .val (.int (1 : Int32)), .val (.int (1 : Int32)), .val (.ref b85), .unset, .unset, .unset, .unset, .unset] [(.int (2 : Int32)), (.ref b94), (.ref b94)])) rfl (hb hby at_68)
      refine EKit.step st99 ?_
      show EKit.EndsW p l e room_1 s m #[(.int p0), (.int p1)] below meth c room_1.cells room_1.slots (fun v h L => v = some (.int (1 : Int32)) ∧ Fr h0.size L) T99 (mkF m 71 #[.val (.int p0), .val (.int p1), .val (.int (1 : Int32)), .val (.int (1 : Int32)), .val (.ref b85), .unset, .unset, .unset, .unset, .unset] [(.ref w_SIGN_AND_ENCRYPT), (.int (2 : Int32)), (.ref b94), (.ref b94)])
      refine EKit.aastore X99 hx hZ e99 V98 O94 (Ins.self (E_SIGN_AND_ENCRYPT.ext EX98)) (by decide) (by decide) (hb hby at_71) (q := 72) rfl ?_
      intro T100 h100 X100 e100 W100 V100
      have X100 := Stand.forget X100 (fun y hy => by cases List.mem_singleton.mp hy; rw [hs0]; exact gn_b94)
      have sz100 : h0.size ≤ h100.size := Nat.le_trans sz98 (Keep.of_wr W100).1
      have fV_b85_100 := fV_b85_98.other W100 (ne_b85_b94)
      have fE_b86_100 := fE_b86_98.wr W100
      have fF_b86_coder_100 := fF_b86_coder_98.other W100 (Or.inl (ne_b86_b94))
      have fF_b86_value_100 := fF_b86_value_98.other W100 (Or.inl (ne_b86_b94))
      have fV_c86_100 := fV_c86_98.other W100 (ne_c86_b94)
      have fE_b88_100 := fE_b88_98.wr W100
      have fF_b88_coder_100 := fF_b88_coder_98.other W100 (Or.inl (ne_b88_b94))
      have fF_b88_value_100 := fF_b88_value_98.other W100 (Or.inl (ne_b88_b94))
      have fV_c88_100 := fV_c88_98.other W100 (ne_c88_b94)
      have fE_b90_100 := fE_b90_98.wr W100
      have fF_b90_coder_100 := fF_b90_coder_98.other W100 (Or.inl (ne_b90_b94))
      have fF_b90_value_100 := fF_b90_value_98.other W100 (Or.inl (ne_b90_b94))
      have fV_c90_100 := fV_c90_98.other W100 (ne_c90_b94)
      have fI_sz_100 := fI_sz_98.wr W100
      have EX100 := EKit.Ext_wr EX98 W100 gn_b94
      refine EKit.dup X100 hx rfl (hb hby at_72) (q := 73) rfl ?_
      refine EKit.iconst X100 hx (v := (3 : Int32)) rfl (hb hby at_73) (q := 74) rfl ?_
      obtain ⟨T101, X101, e101, st101⟩ := getS X100 hx hZ (host := "") hown (hw _ (List.mem_of_getElem? (i := 21) rfl)) Via.refl e100 (S_SIGN_AND_ENCRYPT.ext EX100) (g := (mkF m 74 #[.val (.int p0), .val (.int p1), .val (.int (1 : Int32)), .val (.int (1 : Int32)), .val (.ref b85), .unset, .unset, .unset, .unset, .unset] [(.int (3 : Int32)), (.ref b94), (.ref b94)])) rfl (hb hby at_74)
      refine EKit.step st101 ?_
      show EKit.EndsW p l e room_1 s m #[(.int p0), (.int p1)] below meth c room_1.cells room_1.slots (fun v h L => v = some (.int (1 : Int32)) ∧ Fr h0.size L) T101 (mkF m 77 #[.val (.int p0), .val (.int p1), .val (.int (1 : Int32)), .val (.int (1 : Int32)), .val (.ref b85), .unset, .unset, .unset, .unset, .unset] [(.ref w_SIGN_AND_ENCRYPT), (.int (3 : Int32)), (.ref b94), (.ref b94)])
      refine EKit.aastore X101 hx hZ e101 V100 O94 (Ins.self (E_SIGN_AND_ENCRYPT.ext EX100)) (by decide) (by decide) (hb hby at_77) (q := 78) rfl ?_
      intro T102 h102 X102 e102 W102 V102
      have X102 := Stand.forget X102 (fun y hy => by cases List.mem_singleton.mp hy; rw [hs0]; exact gn_b94)
      have sz102 : h0.size ≤ h102.size := Nat.le_trans sz100 (Keep.of_wr W102).1
      have fV_b85_102 := fV_b85_100.other W102 (ne_b85_b94)
      have fE_b86_102 := fE_b86_100.wr W102
      have fF_b86_coder_102 := fF_b86_coder_100.other W102 (Or.inl (ne_b86_b94))
      have fF_b86_value_102 := fF_b86_value_100.other W102 (Or.inl (ne_b86_b94))
      have fV_c86_102 := fV_c86_100.other W102 (ne_c86_b94)
      have fE_b88_102 := fE_b88_100.wr W102
      have fF_b88_coder_102 := fF_b88_coder_100.other W102 (Or.inl (ne_b88_b94))
      have fF_b88_value_102 := fF_b88_value_100.other W102 (Or.inl (ne_b88_b94))
      have fV_c88_102 := fV_c88_100.other W102 (ne_c88_b94)
      have fE_b90_102 := fE_b90_100.wr W102
      have fF_b90_coder_102 := fF_b90_coder_100.other W102 (Or.inl (ne_b90_b94))
      have fF_b90_value_102 := fF_b90_value_100.other W102 (Or.inl (ne_b90_b94))
      have fV_c90_102 := fV_c90_100.other W102 (ne_c90_b94)
      have fI_sz_102 := fI_sz_100.wr W102
      have EX102 := EKit.Ext_wr EX100 W102 gn_b94
      refine EKit.astore X102 hx rfl (l' := #[.val (.int p0), .val (.int p1), .val (.int (1 : Int32)), .val (.int (1 : Int32)), .val (.ref b85), .val (.ref b94), .unset, .unset, .unset, .unset]) rfl (hb hby at_78) (q := 80) rfl ?_
      refine EKit.iloadN X102 hx rfl (hb hby at_80) (q := 81) rfl ?_
      have h81 : ¬ ((1 : Int32) = (0 : Int32)) := by decide
      refine EKit.ifNo X102 hx (EKit.c_t (feq h81).1) (hb hby at_81) (q := 84) rfl ?_
      refine EKit.iconst X102 hx (v := (1 : Int32)) rfl (hb hby at_84) (q := 85) rfl ?_
      refine EKit.goto X102 hx (hb hby at_85) (by decide) (q := 89) (by decide) ?_
      refine EKit.iloadN X102 hx rfl (hb hby at_89) (q := 90) rfl ?_
      have h90 : ¬ ((1 : Int32) = (0 : Int32)) := by decide
      refine EKit.ifNo X102 hx (EKit.c_t (feq h90).1) (hb hby at_90) (q := 93) rfl ?_
      refine EKit.iconst X102 hx (v := (2 : Int32)) rfl (hb hby at_93) (q := 94) rfl ?_
      refine EKit.goto X102 hx (hb hby at_94) (by decide) (q := 98) (by decide) ?_
      refine EKit.iadd X102 hx  (hb hby at_98) (q := 99) rfl ?_
      refine EKit.istore X102 hx (l' := #[.val (.int p0), .val (.int p1), .val (.int (1 : Int32)), .val (.int (1 : Int32)), .val (.ref b85), .val (.ref b94), .val (.int ((1 : Int32) + (2 : Int32))), .unset, .unset, .unset]) rfl (hb hby at_99) (q := 101) rfl ?_
      refine EKit.iloadN X102 hx rfl (hb hby at_101) (q := 102) rfl ?_
      refine EKit.iloadN X102 hx rfl (hb hby at_102) (q := 103) rfl ?_
      refine EKit.callS X102 hx hZ hown e102 (y := (⟨"com/example/pubframe/pubframe/message/SecurityMode", "of", "(ZZ)Lcom/example/pubframe/pubframe/message/SecurityMode;"⟩ : MethodName)) (hw _ (List.mem_of_getElem? (i := 23) rfl)) (hw _ (List.mem_of_getElem? (i := 24) rfl)) (hw _ (List.mem_of_getElem? (i := 16) rfl)) (hw _ (List.mem_of_getElem? (i := 25) rfl)) (by decide) (argsL := [(.int (1 : Int32)), (.int (1 : Int32))]) (rm1_11 l Z a0 hw [] h102 w_NONE w_SIGN w_SIGN_AND_ENCRYPT (S_NONE.ext EX102) (S_SIGN.ext EX102) (S_SIGN_AND_ENCRYPT.ext EX102)) (rest := []) (by rw [hml]; rfl) pd__ZZ_Lcom_example_pubframe_pubframe_message_SecurityMode_ rfl (W := 0) (Nat.le_of_eq rfl) (by decide) (by decide) (by decide) (by decide) rfl (hb hby at_103) (q := 106) rfl ?_
      intro T103 v103 L103 X103 hQ103
      obtain ⟨X103, e103, ev103⟩ := EKit.pureK X103 hQ103
      subst ev103
      show EKit.EndsW p l e room_1 s m #[(.int p0), (.int p1)] below meth c room_1.cells room_1.slots (fun v h L => v = some (.int (1 : Int32)) ∧ Fr h0.size L) T103 (mkF m 106 #[.val (.int p0), .val (.int p1), .val (.int (1 : Int32)), .val (.int (1 : Int32)), .val (.ref b85), .val (.ref b94), .val (.int ((1 : Int32) + (2 : Int32))), .unset, .unset, .unset] [(.ref w_SIGN_AND_ENCRYPT)])
      refine EKit.astore X103 hx rfl (l' := #[.val (.int p0), .val (.int p1), .val (.int (1 : Int32)), .val (.int (1 : Int32)), .val (.ref b85), .val (.ref b94), .val (.int ((1 : Int32) + (2 : Int32))), .val (.ref w_SIGN_AND_ENCRYPT), .unset, .unset]) rfl (hb hby at_106) (q := 108) rfl ?_
      refine EKit.aload X103 hx rfl rfl (hb hby at_108) (q := 110) rfl ?_
      refine EKit.ifnonnullYes X103 hx (hb hby at_110) (by decide) (q := 115) (by decide) ?_
      refine EKit.aload X103 hx rfl rfl (hb hby at_115) (q := 117) rfl ?_
      refine EKit.aload X103 hx rfl rfl (hb hby at_117) (q := 119) rfl ?_
      refine EKit.iload X103 hx rfl (hb hby at_119) (q := 121) rfl ?_
      refine EKit.aaload X103 hx hZ e103 rfl V102 (by decide) (by decide) (v := (.ref w_SIGN_AND_ENCRYPT)) (by first | rfl | simp) (hb hby at_121) (q := 122) rfl ?_
      have h122 : w_SIGN_AND_ENCRYPT = w_SIGN_AND_ENCRYPT := rfl
      refine EKit.acmp X103 hx rfl rfl (same := true) (EKit.rr_t h122) (hb hby at_122) (by decide) (q := 127) (by decide) ?_
      refine EKit.aload X103 hx rfl rfl (hb hby at_127) (q := 129) rfl ?_
      refine EKit.iload X103 hx rfl (hb hby at_129) (q := 131) rfl ?_
      refine EKit.aaload X103 hx hZ e103 rfl fV_b85_102 (by decide) (by decide) (v := (.ref b90)) (by first | rfl | simp) (hb hby at_131) (q := 132) rfl ?_
      refine EKit.aload X103 hx rfl rfl (hb hby at_132) (q := 134) rfl ?_
      refine EKit.callV X103 hx hZ hown e103 (y := (⟨"com/example/pubframe/pubframe/message/SecurityMode", "specName", "()Ljava/lang/String;"⟩ : MethodName)) (z := (⟨"com/example/pubframe/pubframe/message/SecurityMode", "specName", "()Ljava/lang/String;"⟩ : MethodName)) (K := "com/example/pubframe/pubframe/message/SecurityMode") (hw _ (List.mem_of_getElem? (i := 27) rfl)) (hw _ (List.mem_of_getElem? (i := 28) rfl)) (notFace_of_selects (args := #[]) (mvT hZ (hw _ (List.mem_of_getElem? (i := 30) rfl)))) (hw _ (List.mem_of_getElem? (i := 30) rfl)) (hw _ (List.mem_of_getElem? (i := 29) rfl)) (hw _ (List.mem_of_getElem? (i := 16) rfl)) (hw _ (List.mem_of_getElem? (i := 31) rfl)) (by decide) (a := w_SIGN_AND_ENCRYPT) ((E_SIGN_AND_ENCRYPT.ext EX102)) (argsL := []) (rm2 l Z a0 hw [] w_SIGN_AND_ENCRYPT h102 sp_SIGN_AND_ENCRYPT (N_SIGN_AND_ENCRYPT.ext EX102)) (rest := [(.ref b90)]) (by rw [hml]; rfl) pd___Ljava_lang_String_ rfl (W := 1) (Nat.le_of_eq rfl) (by decide) (by decide) (by decide) (by decide) rfl (hb hby at_134) (q := 137) rfl ?_
      intro T104 v104 L104 X104 hQ104
      obtain ⟨X104, e104, ev104⟩ := EKit.pureK X104 hQ104
      subst ev104
      show EKit.EndsW p l e room_1 s m #[(.int p0), (.int p1)] below meth c room_1.cells room_1.slots (fun v h L => v = some (.int (1 : Int32)) ∧ Fr h0.size L) T104 (mkF m 137 #[.val (.int p0), .val (.int p1), .val (.int (1 : Int32)), .val (.int (1 : Int32)), .val (.ref b85), .val (.ref b94), .val (.int ((1 : Int32) + (2 : Int32))), .val (.ref w_SIGN_AND_ENCRYPT), .unset, .unset] [(.ref sp_SIGN_AND_ENCRYPT), (.ref b90)])
      refine EKit.callV X104 hx hZ hown e104 (y := (⟨"java/lang/String", "equals", "(Ljava/lang/Object;)Z"⟩ : MethodName)) (z := (⟨"java/lang/String", "equals", "(Ljava/lang/Object;)Z"⟩ : MethodName)) (K := "java/lang/String") (hw _ (List.mem_of_getElem? (i := 34) rfl)) (hw _ (List.mem_of_getElem? (i := 35) rfl)) (notFace_of_selects (args := #[]) (mvT hZ (hw _ (List.mem_of_getElem? (i := 37) rfl)))) (hw _ (List.mem_of_getElem? (i := 37) rfl)) (hw _ (List.mem_of_getElem? (i := 36) rfl)) (hw _ (List.mem_of_getElem? (i := 3) rfl)) (hw _ (List.mem_of_getElem? (i := 38) rfl)) (by decide) (a := b90) (fE_b90_102) (argsL := [(.ref sp_SIGN_AND_ENCRYPT)]) (rm3 l Z a0 hw [] b90 sp_SIGN_AND_ENCRYPT h102 c90 dd_SIGN_AND_ENCRYPT z_CS (S_CS.ext EX102) P_CS (14 : Int32) own_tE kb90 kk_SIGN_AND_ENCRYPT fE_b90_102 fF_b90_coder_102 fF_b90_value_102 fV_c90_102 (E_sp_SIGN_AND_ENCRYPT.ext EX102) (C_sp_SIGN_AND_ENCRYPT.ext EX102) (B_sp_SIGN_AND_ENCRYPT.ext EX102) (V_sp_SIGN_AND_ENCRYPT.ext EX102)) (rest := []) (by rw [hml]; rfl) pd__Ljava_lang_Object__Z rfl (W := 0) (Nat.le_of_eq rfl) (by decide) (by decide) (by decide) (by decide) rfl (hb hby at_137) (q := 140) rfl ?_
      intro T105 v105 L105 X105 hQ105
      obtain ⟨X105, e105, ev105⟩ := EKit.pureK X105 hQ105
      subst ev105
      show EKit.EndsW p l e room_1 s m #[(.int p0), (.int p1)] below meth c room_1.cells room_1.slots (fun v h L => v = some (.int (1 : Int32)) ∧ Fr h0.size L) T105 (mkF m 140 #[.val (.int p0), .val (.int p1), .val (.int (1 : Int32)), .val (.int (1 : Int32)), .val (.ref b85), .val (.ref b94), .val (.int ((1 : Int32) + (2 : Int32))), .val (.ref w_SIGN_AND_ENCRYPT), .unset, .unset] [(.int (1 : Int32))])
      have h140 : ¬ ((1 : Int32) = (0 : Int32)) := by decide
      refine EKit.ifYes X105 hx (EKit.c_t (feq h140).2) (hb hby at_140) (by decide) (q := 145) (by decide) ?_
      refine EKit.iconst X105 hx (v := (1 : Int32)) rfl (hb hby at_145) (q := 146) rfl ?_
      refine EKit.iloadN X105 hx rfl (hb hby at_146) (q := 147) rfl ?_
      refine EKit.callS X105 hx hZ hown e105 (y := (⟨"com/example/pubframe/pubframe/message/SecurityMode", "of", "(ZZ)Lcom/example/pubframe/pubframe/message/SecurityMode;"⟩ : MethodName)) (hw _ (List.mem_of_getElem? (i := 23) rfl)) (hw _ (List.mem_of_getElem? (i := 24) rfl)) (hw _ (List.mem_of_getElem? (i := 16) rfl)) (hw _ (List.mem_of_getElem? (i := 25) rfl)) (by decide) (argsL := [(.int (1 : Int32)), (.int (1 : Int32))]) (rm1_11 l Z a0 hw [] h102 w_NONE w_SIGN w_SIGN_AND_ENCRYPT (S_NONE.ext EX102) (S_SIGN.ext EX102) (S_SIGN_AND_ENCRYPT.ext EX102)) (rest := []) (by rw [hml]; rfl) pd__ZZ_Lcom_example_pubframe_pubframe_message_SecurityMode_ rfl (W := 0) (Nat.le_of_eq rfl) (by decide) (by decide) (by decide) (by decide) rfl (hb hby at_147) (q := 150) rfl ?_
      intro T106 v106 L106 X106 hQ106
      obtain ⟨X106, e106, ev106⟩ := EKit.pureK X106 hQ106
      subst ev106
      show EKit.EndsW p l e room_1 s m #[(.int p0), (.int p1)] below meth c room_1.cells room_1.slots (fun v h L => v = some (.int (1 : Int32)) ∧ Fr h0.size L) T106 (mkF m 150 #[.val (.int p0), .val (.int p1), .val (.int (1 : Int32)), .val (.int (1 : Int32)), .val (.ref b85), .val (.ref b94), .val (.int ((1 : Int32) + (2 : Int32))), .val (.ref w_SIGN_AND_ENCRYPT), .unset, .unset] [(.ref w_SIGN_AND_ENCRYPT)])
      refine EKit.astore X106 hx rfl (l' := #[.val (.int p0), .val (.int p1), .val (.int (1 : Int32)), .val (.int (1 : Int32)), .val (.ref b85), .val (.ref b94), .val (.int ((1 : Int32) + (2 : Int32))), .val (.ref w_SIGN_AND_ENCRYPT), .val (.ref w_SIGN_AND_ENCRYPT), .unset]) rfl (hb hby at_150) (q := 152) rfl ?_
      refine EKit.iloadN X106 hx rfl (hb hby at_152) (q := 153) rfl ?_
      refine EKit.iconst X106 hx (v := (1 : Int32)) rfl (hb hby at_153) (q := 154) rfl ?_
      refine EKit.callS X106 hx hZ hown e106 (y := (⟨"com/example/pubframe/pubframe/message/SecurityMode", "of", "(ZZ)Lcom/example/pubframe/pubframe/message/SecurityMode;"⟩ : MethodName)) (hw _ (List.mem_of_getElem? (i := 23) rfl)) (hw _ (List.mem_of_getElem? (i := 24) rfl)) (hw _ (List.mem_of_getElem? (i := 16) rfl)) (hw _ (List.mem_of_getElem? (i := 25) rfl)) (by decide) (argsL := [(.int (1 : Int32)), (.int (1 : Int32))]) (rm1_11 l Z a0 hw [] h102 w_NONE w_SIGN w_SIGN_AND_ENCRYPT (S_NONE.ext EX102) (S_SIGN.ext EX102) (S_SIGN_AND_ENCRYPT.ext EX102)) (rest := []) (by rw [hml]; rfl) pd__ZZ_Lcom_example_pubframe_pubframe_message_SecurityMode_ rfl (W := 0) (Nat.le_of_eq rfl) (by decide) (by decide) (by decide) (by decide) rfl (hb hby at_154) (q := 157) rfl ?_
      intro T107 v107 L107 X107 hQ107
      obtain ⟨X107, e107, ev107⟩ := EKit.pureK X107 hQ107
      subst ev107
      show EKit.EndsW p l e room_1 s m #[(.int p0), (.int p1)] below meth c room_1.cells room_1.slots (fun v h L => v = some (.int (1 : Int32)) ∧ Fr h0.size L) T107 (mkF m 157 #[.val (.int p0), .val (.int p1), .val (.int (1 : Int32)), .val (.int (1 : Int32)), .val (.ref b85), .val (.ref b94), .val (.int ((1 : Int32) + (2 : Int32))), .val (.ref w_SIGN_AND_ENCRYPT), .val (.ref w_SIGN_AND_ENCRYPT), .unset] [(.ref w_SIGN_AND_ENCRYPT)])
      refine EKit.astore X107 hx rfl (l' := #[.val (.int p0), .val (.int p1), .val (.int (1 : Int32)), .val (.int (1 : Int32)), .val (.ref b85), .val (.ref b94), .val (.int ((1 : Int32) + (2 : Int32))), .val (.ref w_SIGN_AND_ENCRYPT), .val (.ref w_SIGN_AND_ENCRYPT), .val (.ref w_SIGN_AND_ENCRYPT)]) rfl (hb hby at_157) (q := 159) rfl ?_
      refine EKit.aload X107 hx rfl rfl (hb hby at_159) (q := 161) rfl ?_
      refine EKit.ifnullNo X107 hx (hb hby at_161) (q := 164) rfl ?_
      refine EKit.aload X107 hx rfl rfl (hb hby at_164) (q := 166) rfl ?_
      refine EKit.ifnonnullYes X107 hx (hb hby at_166) (by decide) (q := 171) (by decide) ?_
      refine EKit.aload X107 hx rfl rfl (hb hby at_171) (q := 173) rfl ?_
      refine EKit.callS X107 hx hZ hown e107 (y := (⟨"com/example/pubframe/pubframe/message/SecurityModeOfPinLaw", "rank", "(Lcom/example/pubframe/pubframe/message/SecurityMode;)I"⟩ : MethodName)) (hw _ (List.mem_of_getElem? (i := 47) rfl)) (hw _ (List.mem_of_getElem? (i := 48) rfl)) (hw _ (List.mem_of_getElem? (i := 49) rfl)) (hw _ (List.mem_of_getElem? (i := 50) rfl)) (by decide) (argsL := [(.ref w_SIGN_AND_ENCRYPT)]) (rm5_SIGN_AND_ENCRYPT l Z a0 hw [] w_SIGN_AND_ENCRYPT h102 w_NONE w_SIGN (S_NONE.ext EX102) (S_SIGN.ext EX102) (S_SIGN_AND_ENCRYPT.ext EX102) ne_SN ne_EN ne_ES) (rest := []) (by rw [hml]; rfl) pd__Lcom_example_pubframe_pubframe_message_SecurityMode__I rfl (W := 0) (Nat.le_of_eq rfl) (by decide) (by decide) (by decide) (by decide) rfl (hb hby at_173) (q := 176) rfl ?_
      intro T108 v108 L108 X108 hQ108
      obtain ⟨X108, e108, ev108⟩ := EKit.pureK X108 hQ108
      subst ev108
      show EKit.EndsW p l e room_1 s m #[(.int p0), (.int p1)] below meth c room_1.cells room_1.slots (fun v h L => v = some (.int (1 : Int32)) ∧ Fr h0.size L) T108 (mkF m 176 #[.val (.int p0), .val (.int p1), .val (.int (1 : Int32)), .val (.int (1 : Int32)), .val (.ref b85), .val (.ref b94), .val (.int ((1 : Int32) + (2 : Int32))), .val (.ref w_SIGN_AND_ENCRYPT), .val (.ref w_SIGN_AND_ENCRYPT), .val (.ref w_SIGN_AND_ENCRYPT)] [(.int (2 : Int32))])
      refine EKit.aload X108 hx rfl rfl (hb hby at_176) (q := 178) rfl ?_
      refine EKit.callS X108 hx hZ hown e108 (y := (⟨"com/example/pubframe/pubframe/message/SecurityModeOfPinLaw", "rank", "(Lcom/example/pubframe/pubframe/message/SecurityMode;)I"⟩ : MethodName)) (hw _ (List.mem_of_getElem? (i := 47) rfl)) (hw _ (List.mem_of_getElem? (i := 48) rfl)) (hw _ (List.mem_of_getElem? (i := 49) rfl)) (hw _ (List.mem_of_getElem? (i := 50) rfl)) (by decide) (argsL := [(.ref w_SIGN_AND_ENCRYPT)]) (rm5_SIGN_AND_ENCRYPT l Z a0 hw [] w_SIGN_AND_ENCRYPT h102 w_NONE w_SIGN (S_NONE.ext EX102) (S_SIGN.ext EX102) (S_SIGN_AND_ENCRYPT.ext EX102) ne_SN ne_EN ne_ES) (rest := [(.int (2 : Int32))]) (by rw [hml]; rfl) pd__Lcom_example_pubframe_pubframe_message_SecurityMode__I rfl (W := 1) (Nat.le_of_eq rfl) (by decide) (by decide) (by decide) (by decide) rfl (hb hby at_178) (q := 181) rfl ?_
      intro T109 v109 L109 X109 hQ109
      obtain ⟨X109, e109, ev109⟩ := EKit.pureK X109 hQ109
      subst ev109
      show EKit.EndsW p l e room_1 s m #[(.int p0), (.int p1)] below meth c room_1.cells room_1.slots (fun v h L => v = some (.int (1 : Int32)) ∧ Fr h0.size L) T109 (mkF m 181 #[.val (.int p0), .val (.int p1), .val (.int (1 : Int32)), .val (.int (1 : Int32)), .val (.ref b85), .val (.ref b94), .val (.int ((1 : Int32) + (2 : Int32))), .val (.ref w_SIGN_AND_ENCRYPT), .val (.ref w_SIGN_AND_ENCRYPT), .val (.ref w_SIGN_AND_ENCRYPT)] [(.int (2 : Int32)), (.int (2 : Int32))])
      have h181 : ¬ ((2 : Int32) < (2 : Int32)) := by decide
      refine EKit.icmpNo X109 hx ((flt h181).1) (hb hby at_181) (q := 184) rfl ?_
      refine EKit.aload X109 hx rfl rfl (hb hby at_184) (q := 186) rfl ?_
      refine EKit.callS X109 hx hZ hown e109 (y := (⟨"com/example/pubframe/pubframe/message/SecurityModeOfPinLaw", "rank", "(Lcom/example/pubframe/pubframe/message/SecurityMode;)I"⟩ : MethodName)) (hw _ (List.mem_of_getElem? (i := 47) rfl)) (hw _ (List.mem_of_getElem? (i := 48) rfl)) (hw _ (List.mem_of_getElem? (i := 49) rfl)) (hw _ (List.mem_of_getElem? (i := 50) rfl)) (by decide) (argsL := [(.ref w_SIGN_AND_ENCRYPT)]) (rm5_SIGN_AND_ENCRYPT l Z a0 hw [] w_SIGN_AND_ENCRYPT h102 w_NONE w_SIGN (S_NONE.ext EX102) (S_SIGN.ext EX102) (S_SIGN_AND_ENCRYPT.ext EX102) ne_SN ne_EN ne_ES) (rest := []) (by rw [hml]; rfl) pd__Lcom_example_pubframe_pubframe_message_SecurityMode__I rfl (W := 0) (Nat.le_of_eq rfl) (by decide) (by decide) (by decide) (by decide) rfl (hb hby at_186) (q := 189) rfl ?_
      intro T110 v110 L110 X110 hQ110
      obtain ⟨X110, e110, ev110⟩ := EKit.pureK X110 hQ110
      subst ev110
      show EKit.EndsW p l e room_1 s m #[(.int p0), (.int p1)] below meth c room_1.cells room_1.slots (fun v h L => v = some (.int (1 : Int32)) ∧ Fr h0.size L) T110 (mkF m 189 #[.val (.int p0), .val (.int p1), .val (.int (1 : Int32)), .val (.int (1 : Int32)), .val (.ref b85), .val (.ref b94), .val (.int ((1 : Int32) + (2 : Int32))), .val (.ref w_SIGN_AND_ENCRYPT), .val (.ref w_SIGN_AND_ENCRYPT), .val (.ref w_SIGN_AND_ENCRYPT)] [(.int (2 : Int32))])
      refine EKit.aload X110 hx rfl rfl (hb hby at_189) (q := 191) rfl ?_
      refine EKit.callS X110 hx hZ hown e110 (y := (⟨"com/example/pubframe/pubframe/message/SecurityModeOfPinLaw", "rank", "(Lcom/example/pubframe/pubframe/message/SecurityMode;)I"⟩ : MethodName)) (hw _ (List.mem_of_getElem? (i := 47) rfl)) (hw _ (List.mem_of_getElem? (i := 48) rfl)) (hw _ (List.mem_of_getElem? (i := 49) rfl)) (hw _ (List.mem_of_getElem? (i := 50) rfl)) (by decide) (argsL := [(.ref w_SIGN_AND_ENCRYPT)]) (rm5_SIGN_AND_ENCRYPT l Z a0 hw [] w_SIGN_AND_ENCRYPT h102 w_NONE w_SIGN (S_NONE.ext EX102) (S_SIGN.ext EX102) (S_SIGN_AND_ENCRYPT.ext EX102) ne_SN ne_EN ne_ES) (rest := [(.int (2 : Int32))]) (by rw [hml]; rfl) pd__Lcom_example_pubframe_pubframe_message_SecurityMode__I rfl (W := 1) (Nat.le_of_eq rfl) (by decide) (by decide) (by decide) (by decide) rfl (hb hby at_191) (q := 194) rfl ?_
      intro T111 v111 L111 X111 hQ111
      obtain ⟨X111, e111, ev111⟩ := EKit.pureK X111 hQ111
      subst ev111
      show EKit.EndsW p l e room_1 s m #[(.int p0), (.int p1)] below meth c room_1.cells room_1.slots (fun v h L => v = some (.int (1 : Int32)) ∧ Fr h0.size L) T111 (mkF m 194 #[.val (.int p0), .val (.int p1), .val (.int (1 : Int32)), .val (.int (1 : Int32)), .val (.ref b85), .val (.ref b94), .val (.int ((1 : Int32) + (2 : Int32))), .val (.ref w_SIGN_AND_ENCRYPT), .val (.ref w_SIGN_AND_ENCRYPT), .val (.ref w_SIGN_AND_ENCRYPT)] [(.int (2 : Int32)), (.int (2 : Int32))])
      have h194 : ¬ ((2 : Int32) < (2 : Int32)) := by decide
      refine EKit.icmpNo X111 hx ((flt h194).1) (hb hby at_194) (q := 197) rfl ?_
      refine EKit.aload X111 hx rfl rfl (hb hby at_197) (q := 199) rfl ?_
      refine EKit.callS X111 hx hZ hown e111 (y := (⟨"com/example/pubframe/pubframe/message/SecurityModeOfPinLaw", "rank", "(Lcom/example/pubframe/pubframe/message/SecurityMode;)I"⟩ : MethodName)) (hw _ (List.mem_of_getElem? (i := 47) rfl)) (hw _ (List.mem_of_getElem? (i := 48) rfl)) (hw _ (List.mem_of_getElem? (i := 49) rfl)) (hw _ (List.mem_of_getElem? (i := 50) rfl)) (by decide) (argsL := [(.ref w_SIGN_AND_ENCRYPT)]) (rm5_SIGN_AND_ENCRYPT l Z a0 hw [] w_SIGN_AND_ENCRYPT h102 w_NONE w_SIGN (S_NONE.ext EX102) (S_SIGN.ext EX102) (S_SIGN_AND_ENCRYPT.ext EX102) ne_SN ne_EN ne_ES) (rest := []) (by rw [hml]; rfl) pd__Lcom_example_pubframe_pubframe_message_SecurityMode__I rfl (W := 0) (Nat.le_of_eq rfl) (by decide) (by decide) (by decide) (by decide) rfl (hb hby at_199) (q := 202) rfl ?_
      intro T112 v112 L112 X112 hQ112
      obtain ⟨X112, e112, ev112⟩ := EKit.pureK X112 hQ112
      subst ev112
      show EKit.EndsW p l e room_1 s m #[(.int p0), (.int p1)] below meth c room_1.cells room_1.slots (fun v h L => v = some (.int (1 : Int32)) ∧ Fr h0.size L) T112 (mkF m 202 #[.val (.int p0), .val (.int p1), .val (.int (1 : Int32)), .val (.int (1 : Int32)), .val (.ref b85), .val (.ref b94), .val (.int ((1 : Int32) + (2 : Int32))), .val (.ref w_SIGN_AND_ENCRYPT), .val (.ref w_SIGN_AND_ENCRYPT), .val (.ref w_SIGN_AND_ENCRYPT)] [(.int (2 : Int32))])
      have h202 : ¬ ((2 : Int32) < (0 : Int32)) := by decide
      refine EKit.ifNo X112 hx (EKit.c_t (flt h202).1) (hb hby at_202) (q := 205) rfl ?_
      refine EKit.iconst X112 hx (v := (1 : Int32)) rfl (hb hby at_205) (q := 206) rfl ?_
      refine EKit.goto X112 hx (hb hby at_206) (by decide) (q := 210) (by decide) ?_
      exact EKit.toW hS90 (EKit.retZ X112 hx hret (by simp) (hb hby at_210) (⟨⟨rfl, Fr.nil _⟩, by rw [e112]; exact fI_sz_102⟩) (by decide) (by decide))
set_option maxRecDepth 65536 in
set_option maxHeartbeats 40000000 in
theorem comes_1 {Post : Tables → Env → Array Value → State → Outcome → State → Prop} (hpost : ∀ tb e args s v u, (limb_1_1.after args s (.returned v) u = true ∧ limb_1_2.after args s (.returned v) u = true ∧ True) → FramedW s (.returned v) u (Jvm.fieldLocs frame_1_writes args s ++ Jvm.arrayLocs frame_1_arrays args s ++ Jvm.staticLocs frame_1_statics s) 24 3200 → Post tb e args s (.returned v) u) :
    ArmFor flags0 classFile x code maxLocals ret World_1 tables_1 room_1 Calls_1 rest_1 Pre_1 Post := by
  intro l hfl _ _ p e ha hc hk s m args below hf hA hF happ hP
  obtain ⟨hcalls, hrest, hpre⟩ := hP
  obtain ⟨-, -, -, hnamed, -, -, -, hat⟩ := (Spec.applies_iff hf).mp happ
  obtain ⟨hg, hn⟩ := and_e (Cond.before_iff.mp (show (Jvm.Cond.and given_1 narrow_1).before args s = true from hpre))
  obtain ⟨g4, g5⟩ := and_e hg
  obtain ⟨g6, g7⟩ := and_e g5
  obtain ⟨w0, w1, rfl⟩ : ∃ w0 w1 : Value, args = #[w0, w1] := by
    have hs : args.size = 2 := by simpa [Cond.value, given_1] using g4
    obtain ⟨L⟩ := args
    match L, hs with
    | [w0, w1], _ => exact ⟨w0, w1, rfl⟩
  have hw := fun d (hd : d ∈ tables_1) => atoms_spec (ws := Jvm.Cond.code x code maxLocals ret :: tables_1) hat d (List.mem_cons_of_mem _ hd)
  obtain ⟨i0, ei0⟩ := is_v g6
  obtain rfl : w0 = (.int i0) := Option.some.inj ei0
  obtain ⟨i1, ei1⟩ := is_v g7
  obtain rfl : w1 = (.int i1) := Option.some.inj ei1
  obtain ⟨n1, n2⟩ := and_e hn
  obtain ⟨n3, n4⟩ := and_e n2
  obtain ⟨n5, n6⟩ := and_e n4
  obtain ⟨n7, n8⟩ := and_e n6
  obtain ⟨n9, n10⟩ := and_e n8
  obtain ⟨n11, n12⟩ := and_e n10
  obtain ⟨n13, n14⟩ := and_e n12
  obtain ⟨n15, n16⟩ := and_e n14
  obtain ⟨n17, n18⟩ := and_e n16
  obtain ⟨n19, n20⟩ := and_e n18
  obtain ⟨n21, n22⟩ := and_e n20
  obtain ⟨n23, n24⟩ := and_e n22
  obtain ⟨n25, n26⟩ := and_e n24
  obtain ⟨n27, n28⟩ := and_e n26
  obtain ⟨n29, n30⟩ := and_e n28
  obtain ⟨n31, n32⟩ := and_e n30
  obtain ⟨n33, n34⟩ := and_e n32
  obtain ⟨n35, n36⟩ := and_e n34
  obtain ⟨n37, n38⟩ := and_e n36
  obtain ⟨n39, n40⟩ := and_e n38
  obtain ⟨n41, n42⟩ := and_e n40
  obtain ⟨n43, n44⟩ := and_e n42
  obtain ⟨n45, n46⟩ := and_e n44
  obtain ⟨n47, n48⟩ := and_e n46
  obtain ⟨n49, n50⟩ := and_e n48
  obtain ⟨n51, n52⟩ := and_e n50
  obtain ⟨n53, n54⟩ := and_e n52
  obtain ⟨n55, n56⟩ := and_e n54
  obtain ⟨n57, n58⟩ := and_e n56
  obtain ⟨n59, n60⟩ := and_e n58
  obtain ⟨n61, n62⟩ := and_e n60
  obtain ⟨n63, n64⟩ := and_e n62
  obtain ⟨n65, n66⟩ := and_e n64
  obtain ⟨n67, n68⟩ := and_e n66
  obtain ⟨n69, n70⟩ := and_e n68
  obtain ⟨n71, n72⟩ := and_e n70
  obtain ⟨n73, n74⟩ := and_e n72
  obtain ⟨n75, n76⟩ := and_e n74
  obtain ⟨n77, n78⟩ := and_e n76
  obtain ⟨w_NONE, ev_NONE⟩ := exa_v n1
  have E_NONE : Exa s s.heap w_NONE "com/example/pubframe/pubframe/message/SecurityMode" := Exa.start ev_NONE n1
  have S_NONE : Sta s s.heap "com/example/pubframe/pubframe/message/SecurityMode" "NONE" "Lcom/example/pubframe/pubframe/message/SecurityMode;" (.ref w_NONE) := Sta.start ev_NONE (Or.inr ⟨(hw _ (List.mem_of_getElem? (i := 16) rfl)), (hw _ (List.mem_of_getElem? (i := 17) rfl))⟩)
  obtain ⟨w_SIGN, ev_SIGN⟩ := exa_v n3
  have E_SIGN : Exa s s.heap w_SIGN "com/example/pubframe/pubframe/message/SecurityMode" := Exa.start ev_SIGN n3
  have S_SIGN : Sta s s.heap "com/example/pubframe/pubframe/message/SecurityMode" "SIGN" "Lcom/example/pubframe/pubframe/message/SecurityMode;" (.ref w_SIGN) := Sta.start ev_SIGN (Or.inr ⟨(hw _ (List.mem_of_getElem? (i := 16) rfl)), (hw _ (List.mem_of_getElem? (i := 20) rfl))⟩)
  obtain ⟨w_SIGN_AND_ENCRYPT, ev_SIGN_AND_ENCRYPT⟩ := exa_v n5
  have E_SIGN_AND_ENCRYPT : Exa s s.heap w_SIGN_AND_ENCRYPT "com/example/pubframe/pubframe/message/SecurityMode" := Exa.start ev_SIGN_AND_ENCRYPT n5
  have S_SIGN_AND_ENCRYPT : Sta s s.heap "com/example/pubframe/pubframe/message/SecurityMode" "SIGN_AND_ENCRYPT" "Lcom/example/pubframe/pubframe/message/SecurityMode;" (.ref w_SIGN_AND_ENCRYPT) := Sta.start ev_SIGN_AND_ENCRYPT (Or.inr ⟨(hw _ (List.mem_of_getElem? (i := 16) rfl)), (hw _ (List.mem_of_getElem? (i := 22) rfl))⟩)
  have O_SIGN_AND_ENCRYPT : s.fieldOf? w_SIGN_AND_ENCRYPT "java/lang/Enum" "ordinal" "I" = some (.int (2 : Int32)) := (fld_at ev_SIGN_AND_ENCRYPT).symm.trans (own_eqI n15)
  have O_NONE : s.fieldOf? w_NONE "java/lang/Enum" "ordinal" "I" = some (.int (0 : Int32)) := (fld_at ev_NONE).symm.trans (own_eqI n17)
  have O_SIGN : s.fieldOf? w_SIGN "java/lang/Enum" "ordinal" "I" = some (.int (1 : Int32)) := (fld_at ev_SIGN).symm.trans (own_eqI n19)
  have ne_SN : ¬ w_SIGN = w_NONE := fun z => absurd (O_SIGN.symm.trans (z ▸ O_NONE)) (by decide)
  have ne_EN : ¬ w_SIGN_AND_ENCRYPT = w_NONE := fun z => absurd (O_SIGN_AND_ENCRYPT.symm.trans (z ▸ O_NONE)) (by decide)
  have ne_ES : ¬ w_SIGN_AND_ENCRYPT = w_SIGN := fun z => absurd (O_SIGN_AND_ENCRYPT.symm.trans (z ▸ O_SIGN)) (by decide)
  obtain ⟨hsets, hown0⟩ := atoms_of _ (rest_1_c_eq ▸ (show rest_1_c.before _ s = true from hrest))
  obtain ⟨z_CS, ev_CS⟩ := is_v (Cond.before_iff.mp (hsets _ (List.mem_of_getElem? (i := 1) rfl)))
  have S_CS : Sta s s.heap "java/lang/String" "COMPACT_STRINGS" "Z" (.int z_CS) := Sta.start ev_CS (Or.inl (hsets _ (List.mem_of_getElem? (i := 0) rfl)))
  have P_CS : ¬ z_CS = 0 := fun q => by
    have h := not_v (Cond.before_iff.mp (hsets _ (List.mem_of_getElem? (i := 2) rfl)))
    simp [Cond.value, ev_CS, Term.int_eval, q] at h
  have hcw := hsets _ (List.mem_of_getElem? (i := 2) rfl)
  obtain ⟨sp_NONE, ev_sp_NONE⟩ := exa_v n21
  have E_sp_NONE : Exa s s.heap sp_NONE "java/lang/String" := Exa.start ev_sp_NONE n21
  have N_NONE : Fld s s.heap w_NONE "com/example/pubframe/pubframe/message/SecurityMode" "specName" "Ljava/lang/String;" (.ref sp_NONE) := Fld.start ((fld_at ev_NONE).symm.trans ev_sp_NONE)
  have C_sp_NONE : Fld s s.heap sp_NONE "java/lang/String" "coder" "B" (.int 0) := Fld.start ((fld_at ev_sp_NONE).symm.trans (own_eqI n23))
  obtain ⟨dd_NONE, ev_dd_NONE⟩ := arr_v n25
  have B_sp_NONE : Fld s s.heap sp_NONE "java/lang/String" "value" "[B" (.ref dd_NONE) := Fld.start ((fld_at ev_sp_NONE).symm.trans ev_dd_NONE)
  obtain ⟨cl_NONE, A_NONE⟩ := Arr.start ev_dd_NONE n25
  obtain ⟨r2_NONE, r3_NONE⟩ := EKit.evalLen (EKit.evalEq n27 (Term.int_eval _)) ev_dd_NONE A_NONE
  have qNONE_0 : cl_NONE.slots[0]? = some (.int (own_tN (Int32.ofNat 0))) := (elem_in (EKit.evalEq n29 (Term.int_eval _)) ev_dd_NONE (Term.int_eval _) A_NONE.1).2
  have qNONE_1 : cl_NONE.slots[1]? = some (.int (own_tN (Int32.ofNat 1))) := (elem_in (EKit.evalEq n31 (Term.int_eval _)) ev_dd_NONE (Term.int_eval _) A_NONE.1).2
  have qNONE_2 : cl_NONE.slots[2]? = some (.int (own_tN (Int32.ofNat 2))) := (elem_in (EKit.evalEq n33 (Term.int_eval _)) ev_dd_NONE (Term.int_eval _) A_NONE.1).2
  have qNONE_3 : cl_NONE.slots[3]? = some (.int (own_tN (Int32.ofNat 3))) := (elem_in (EKit.evalEq n35 (Term.int_eval _)) ev_dd_NONE (Term.int_eval _) A_NONE.1).2
  have V_sp_NONE : Ary s s.heap dd_NONE cl_NONE.cls .byte (4 : Int32) (fun j => .int (own_tN j)) := by
    refine Ary.start A_NONE r2_NONE r3_NONE fun i hi => ?_
    match i, hi with
    | 0, _ => exact qNONE_0
    | 1, _ => exact qNONE_1
    | 2, _ => exact qNONE_2
    | 3, _ => exact qNONE_3
    | i + 4, hi => exact absurd hi (by simp [show (4 : Int32).toNatClampNeg = 4 from rfl])
  have hh_NONE : Jvm.Lit.constHeld s "com/example/pubframe/pubframe/message/SecurityModeOfPinLaw" 21 := hcalls.1 ("com/example/pubframe/pubframe/message/SecurityModeOfPinLaw", 21) (List.mem_of_getElem? (i := 0) rfl)
  obtain ⟨sp_SIGN, ev_sp_SIGN⟩ := exa_v n37
  have E_sp_SIGN : Exa s s.heap sp_SIGN "java/lang/String" := Exa.start ev_sp_SIGN n37
  have N_SIGN : Fld s s.heap w_SIGN "com/example/pubframe/pubframe/message/SecurityMode" "specName" "Ljava/lang/String;" (.ref sp_SIGN) := Fld.start ((fld_at ev_SIGN).symm.trans ev_sp_SIGN)
  have C_sp_SIGN : Fld s s.heap sp_SIGN "java/lang/String" "coder" "B" (.int 0) := Fld.start ((fld_at ev_sp_SIGN).symm.trans (own_eqI n39))
  obtain ⟨dd_SIGN, ev_dd_SIGN⟩ := arr_v n41
  have B_sp_SIGN : Fld s s.heap sp_SIGN "java/lang/String" "value" "[B" (.ref dd_SIGN) := Fld.start ((fld_at ev_sp_SIGN).symm.trans ev_dd_SIGN)
  obtain ⟨cl_SIGN, A_SIGN⟩ := Arr.start ev_dd_SIGN n41
  obtain ⟨r2_SIGN, r3_SIGN⟩ := EKit.evalLen (EKit.evalEq n43 (Term.int_eval _)) ev_dd_SIGN A_SIGN
  have qSIGN_0 : cl_SIGN.slots[0]? = some (.int (own_tS (Int32.ofNat 0))) := (elem_in (EKit.evalEq n45 (Term.int_eval _)) ev_dd_SIGN (Term.int_eval _) A_SIGN.1).2
  have qSIGN_1 : cl_SIGN.slots[1]? = some (.int (own_tS (Int32.ofNat 1))) := (elem_in (EKit.evalEq n47 (Term.int_eval _)) ev_dd_SIGN (Term.int_eval _) A_SIGN.1).2
  have qSIGN_2 : cl_SIGN.slots[2]? = some (.int (own_tS (Int32.ofNat 2))) := (elem_in (EKit.evalEq n49 (Term.int_eval _)) ev_dd_SIGN (Term.int_eval _) A_SIGN.1).2
  have qSIGN_3 : cl_SIGN.slots[3]? = some (.int (own_tS (Int32.ofNat 3))) := (elem_in (EKit.evalEq n51 (Term.int_eval _)) ev_dd_SIGN (Term.int_eval _) A_SIGN.1).2
  have V_sp_SIGN : Ary s s.heap dd_SIGN cl_SIGN.cls .byte (4 : Int32) (fun j => .int (own_tS j)) := by
    refine Ary.start A_SIGN r2_SIGN r3_SIGN fun i hi => ?_
    match i, hi with
    | 0, _ => exact qSIGN_0
    | 1, _ => exact qSIGN_1
    | 2, _ => exact qSIGN_2
    | 3, _ => exact qSIGN_3
    | i + 4, hi => exact absurd hi (by simp [show (4 : Int32).toNatClampNeg = 4 from rfl])
  have hh_SIGN : Jvm.Lit.constHeld s "com/example/pubframe/pubframe/message/SecurityModeOfPinLaw" 23 := hcalls.1 ("com/example/pubframe/pubframe/message/SecurityModeOfPinLaw", 23) (List.mem_of_getElem? (i := 1) rfl)
  obtain ⟨sp_SIGN_AND_ENCRYPT, ev_sp_SIGN_AND_ENCRYPT⟩ := exa_v n7
  have E_sp_SIGN_AND_ENCRYPT : Exa s s.heap sp_SIGN_AND_ENCRYPT "java/lang/String" := Exa.start ev_sp_SIGN_AND_ENCRYPT n7
  have N_SIGN_AND_ENCRYPT : Fld s s.heap w_SIGN_AND_ENCRYPT "com/example/pubframe/pubframe/message/SecurityMode" "specName" "Ljava/lang/String;" (.ref sp_SIGN_AND_ENCRYPT) := Fld.start ((fld_at ev_SIGN_AND_ENCRYPT).symm.trans ev_sp_SIGN_AND_ENCRYPT)
  have C_sp_SIGN_AND_ENCRYPT : Fld s s.heap sp_SIGN_AND_ENCRYPT "java/lang/String" "coder" "B" (.int 0) := Fld.start ((fld_at ev_sp_SIGN_AND_ENCRYPT).symm.trans (own_eqI n9))
  obtain ⟨dd_SIGN_AND_ENCRYPT, ev_dd_SIGN_AND_ENCRYPT⟩ := arr_v n11
  have B_sp_SIGN_AND_ENCRYPT : Fld s s.heap sp_SIGN_AND_ENCRYPT "java/lang/String" "value" "[B" (.ref dd_SIGN_AND_ENCRYPT) := Fld.start ((fld_at ev_sp_SIGN_AND_ENCRYPT).symm.trans ev_dd_SIGN_AND_ENCRYPT)
  obtain ⟨cl_SIGN_AND_ENCRYPT, A_SIGN_AND_ENCRYPT⟩ := Arr.start ev_dd_SIGN_AND_ENCRYPT n11
  obtain ⟨r2_SIGN_AND_ENCRYPT, r3_SIGN_AND_ENCRYPT⟩ := EKit.evalLen (EKit.evalEq n13 (Term.int_eval _)) ev_dd_SIGN_AND_ENCRYPT A_SIGN_AND_ENCRYPT
  have qSIGN_AND_ENCRYPT_0 : cl_SIGN_AND_ENCRYPT.slots[0]? = some (.int (own_tE (Int32.ofNat 0))) := (elem_in (EKit.evalEq n53 (Term.int_eval _)) ev_dd_SIGN_AND_ENCRYPT (Term.int_eval _) A_SIGN_AND_ENCRYPT.1).2
  have qSIGN_AND_ENCRYPT_1 : cl_SIGN_AND_ENCRYPT.slots[1]? = some (.int (own_tE (Int32.ofNat 1))) := (elem_in (EKit.evalEq n55 (Term.int_eval _)) ev_dd_SIGN_AND_ENCRYPT (Term.int_eval _) A_SIGN_AND_ENCRYPT.1).2
  have qSIGN_AND_ENCRYPT_2 : cl_SIGN_AND_ENCRYPT.slots[2]? = some (.int (own_tE (Int32.ofNat 2))) := (elem_in (EKit.evalEq n57 (Term.int_eval _)) ev_dd_SIGN_AND_ENCRYPT (Term.int_eval _) A_SIGN_AND_ENCRYPT.1).2
  have qSIGN_AND_ENCRYPT_3 : cl_SIGN_AND_ENCRYPT.slots[3]? = some (.int (own_tE (Int32.ofNat 3))) := (elem_in (EKit.evalEq n59 (Term.int_eval _)) ev_dd_SIGN_AND_ENCRYPT (Term.int_eval _) A_SIGN_AND_ENCRYPT.1).2
  have qSIGN_AND_ENCRYPT_4 : cl_SIGN_AND_ENCRYPT.slots[4]? = some (.int (own_tE (Int32.ofNat 4))) := (elem_in (EKit.evalEq n61 (Term.int_eval _)) ev_dd_SIGN_AND_ENCRYPT (Term.int_eval _) A_SIGN_AND_ENCRYPT.1).2
  have qSIGN_AND_ENCRYPT_5 : cl_SIGN_AND_ENCRYPT.slots[5]? = some (.int (own_tE (Int32.ofNat 5))) := (elem_in (EKit.evalEq n63 (Term.int_eval _)) ev_dd_SIGN_AND_ENCRYPT (Term.int_eval _) A_SIGN_AND_ENCRYPT.1).2
  have qSIGN_AND_ENCRYPT_6 : cl_SIGN_AND_ENCRYPT.slots[6]? = some (.int (own_tE (Int32.ofNat 6))) := (elem_in (EKit.evalEq n65 (Term.int_eval _)) ev_dd_SIGN_AND_ENCRYPT (Term.int_eval _) A_SIGN_AND_ENCRYPT.1).2
  have qSIGN_AND_ENCRYPT_7 : cl_SIGN_AND_ENCRYPT.slots[7]? = some (.int (own_tE (Int32.ofNat 7))) := (elem_in (EKit.evalEq n67 (Term.int_eval _)) ev_dd_SIGN_AND_ENCRYPT (Term.int_eval _) A_SIGN_AND_ENCRYPT.1).2
  have qSIGN_AND_ENCRYPT_8 : cl_SIGN_AND_ENCRYPT.slots[8]? = some (.int (own_tE (Int32.ofNat 8))) := (elem_in (EKit.evalEq n69 (Term.int_eval _)) ev_dd_SIGN_AND_ENCRYPT (Term.int_eval _) A_SIGN_AND_ENCRYPT.1).2
  have qSIGN_AND_ENCRYPT_9 : cl_SIGN_AND_ENCRYPT.slots[9]? = some (.int (own_tE (Int32.ofNat 9))) := (elem_in (EKit.evalEq n71 (Term.int_eval _)) ev_dd_SIGN_AND_ENCRYPT (Term.int_eval _) A_SIGN_AND_ENCRYPT.1).2
  have qSIGN_AND_ENCRYPT_10 : cl_SIGN_AND_ENCRYPT.slots[10]? = some (.int (own_tE (Int32.ofNat 10))) := (elem_in (EKit.evalEq n73 (Term.int_eval _)) ev_dd_SIGN_AND_ENCRYPT (Term.int_eval _) A_SIGN_AND_ENCRYPT.1).2
  have qSIGN_AND_ENCRYPT_11 : cl_SIGN_AND_ENCRYPT.slots[11]? = some (.int (own_tE (Int32.ofNat 11))) := (elem_in (EKit.evalEq n75 (Term.int_eval _)) ev_dd_SIGN_AND_ENCRYPT (Term.int_eval _) A_SIGN_AND_ENCRYPT.1).2
  have qSIGN_AND_ENCRYPT_12 : cl_SIGN_AND_ENCRYPT.slots[12]? = some (.int (own_tE (Int32.ofNat 12))) := (elem_in (EKit.evalEq n77 (Term.int_eval _)) ev_dd_SIGN_AND_ENCRYPT (Term.int_eval _) A_SIGN_AND_ENCRYPT.1).2
  have qSIGN_AND_ENCRYPT_13 : cl_SIGN_AND_ENCRYPT.slots[13]? = some (.int (own_tE (Int32.ofNat 13))) := (elem_in (EKit.evalEq n78 (Term.int_eval _)) ev_dd_SIGN_AND_ENCRYPT (Term.int_eval _) A_SIGN_AND_ENCRYPT.1).2
  have V_sp_SIGN_AND_ENCRYPT : Ary s s.heap dd_SIGN_AND_ENCRYPT cl_SIGN_AND_ENCRYPT.cls .byte (14 : Int32) (fun j => .int (own_tE j)) := by
    refine Ary.start A_SIGN_AND_ENCRYPT r2_SIGN_AND_ENCRYPT r3_SIGN_AND_ENCRYPT fun i hi => ?_
    match i, hi with
    | 0, _ => exact qSIGN_AND_ENCRYPT_0
    | 1, _ => exact qSIGN_AND_ENCRYPT_1
    | 2, _ => exact qSIGN_AND_ENCRYPT_2
    | 3, _ => exact qSIGN_AND_ENCRYPT_3
    | 4, _ => exact qSIGN_AND_ENCRYPT_4
    | 5, _ => exact qSIGN_AND_ENCRYPT_5
    | 6, _ => exact qSIGN_AND_ENCRYPT_6
    | 7, _ => exact qSIGN_AND_ENCRYPT_7
    | 8, _ => exact qSIGN_AND_ENCRYPT_8
    | 9, _ => exact qSIGN_AND_ENCRYPT_9
    | 10, _ => exact qSIGN_AND_ENCRYPT_10
    | 11, _ => exact qSIGN_AND_ENCRYPT_11
    | 12, _ => exact qSIGN_AND_ENCRYPT_12
    | 13, _ => exact qSIGN_AND_ENCRYPT_13
    | i + 14, hi => exact absurd hi (by simp [show (14 : Int32).toNatClampNeg = 14 from rfl])
  have hh_SIGN_AND_ENCRYPT : Jvm.Lit.constHeld s "com/example/pubframe/pubframe/message/SecurityModeOfPinLaw" 25 := hcalls.1 ("com/example/pubframe/pubframe/message/SecurityModeOfPinLaw", 25) (List.mem_of_getElem? (i := 2) rfl)
  obtain ⟨n, o, h1, h2, h3, _, L, rfl, ⟨rfl, N⟩, hq⟩ := rm0 l s _ hw tables_1 i0 i1 s.heap w_NONE w_SIGN w_SIGN_AND_ENCRYPT S_NONE S_SIGN S_SIGN_AND_ENCRYPT E_NONE E_SIGN E_SIGN_AND_ENCRYPT ne_SN ne_EN ne_ES z_CS S_CS P_CS hcw sp_NONE dd_NONE cl_NONE.cls hh_NONE N_NONE E_sp_NONE C_sp_NONE B_sp_NONE V_sp_NONE sp_SIGN dd_SIGN cl_SIGN.cls hh_SIGN N_SIGN E_sp_SIGN C_sp_SIGN B_sp_SIGN V_sp_SIGN sp_SIGN_AND_ENCRYPT dd_SIGN_AND_ENCRYPT cl_SIGN_AND_ENCRYPT.cls hh_SIGN_AND_ENCRYPT N_SIGN_AND_ENCRYPT E_sp_SIGN_AND_ENCRYPT C_sp_SIGN_AND_ENCRYPT B_sp_SIGN_AND_ENCRYPT V_sp_SIGN_AND_ENCRYPT p e ha hc hk s m _ below hf ((Spec.applies_iff_loose hf).mp happ).1 ⟨rfl, State.Warmed39.refl s, rfl, rfl, rfl⟩ trivial
  refine ⟨n, _, h1, h2, h3, hpost _ _ _ _ _ _ ⟨Cond.after_iff.mpr rfl, Cond.after_iff.mpr (eq_i res_at (Term.int_eval (1)) rfl), trivial⟩ ⟨hq.1, hq.2.1, hq.2.2.1, (hq.2.2.2.sift fun y hy => Or.inr (N y hy)).mono (by decide) (by decide)⟩⟩
theorem main_1_1 : Claimed_1_1 := comes_1 fun _ _ _ _ _ _ h hF => ⟨h.1, hF⟩
theorem main_1_2 : Claimed_1_2 := comes_1 fun _ _ _ _ _ _ h hF => ⟨h.2.1, hF⟩
end Jvm.Pilot.@@N@@
namespace Jvm.Pilot.@@N@@
open Jvm Jvm.ClassFile Sem Op Lib Jvm.Free Jvm.Stand Jvm.Pilot.@@N@@.Jvm.D
/-! MADE BY PROGRAM (witnessworld.py) out of the Statement's table words and the real class files: 20 classes; the members and pool entries that the words name. The judged class is class 1, her method 2. -/
namespace start1
open Jvm.ClassFile
def u (s : String) : CpInfo := .utf8 (stringToUtf16 s)
/-- a pool by its gaps: so many unusable entries, then the entry; so many at the end -/
def gap : Nat → List CpInfo → List CpInfo
  | 0, r => r
  | n + 1, r => .unusable :: gap n r
def poolList (es : List (Nat × CpInfo)) (last : Nat) : List CpInfo := es.foldr (fun e r => gap e.1 (e.2 :: r)) (gap last [])
def pool (es : List (Nat × CpInfo)) (last : Nat) : Array CpInfo := ⟨poolList es last⟩
def fileOf (pool : Array CpInfo) (this : Nat) (attrs : Array Attribute := #[]) (ms : Array MethodInfo := #[]) (fl : Nat := 33) (sup : Nat := 0) (ifs : Array Nat := #[]) (fds : Array FieldInfo := #[]) : ClassFile where
  minorVersion := 0
  majorVersion := 65
  constantPool := pool
  accessFlags := fl
  thisClass := this
  superClass := sup
  interfaces := ifs
  fields := fds
  methods := ms
  attributes := attrs
def plain (name : String) (sup : Option ClassId) : Class where
  name := name
  kind := .ordinary
  loader := none
  accessFlags := 33
  super := sup
  interfaces := #[]
  cf := none
  fields := #[]
  methods := #[]
  instanceTypes := #[]
  staticTypes := #[]
  resolved := #[]
  callSites := []
  init := .initialized
  statics := none
  mirror := none

def pool0 : Array CpInfo := pool [(5, u "<init>"), (0, u "()V"), (1, .class_ 10), (1, u "java/lang/Object")] 113

def k0m0 : Method := { name := "<init>", desc := "()V", sig := { parameters := [], returnType := none }, accessFlags := 1, code := none }
/-- java/lang/Object -/
def k0 : Class := { plain "java/lang/Object" none with
  accessFlags := 33
  interfaces := #[]
  cf := some (fileOf pool0 8 #[] #[{ accessFlags := 1, nameIndex := 5, descriptorIndex := 6, attributes := #[] }] 33 0 #[] #[])
  fields := #[]
  methods := #[k0m0]
  instanceTypes := #[]
  staticTypes := #[]
  resolved := Array.replicate 124 none
  statics := none }

def pool1 : Array CpInfo := pool [(2, .class_ 4), (1, u "java/lang/Object"), (0, u "<init>"), (0, u "()V"), (0, .fieldref 8 9), (0, .class_ 10), (0, .nameAndType 11 12), (0, u "com/example/pubframe/pubframe/message/SecurityMode"), (0, u "NONE"), (0, u "Lcom/example/pubframe/pubframe/message/SecurityMode;"), (0, .fieldref 8 14), (0, .nameAndType 15 12), (0, u "SIGN"), (0, .fieldref 8 17), (0, .nameAndType 18 12), (0, u "SIGN_AND_ENCRYPT"), (0, .class_ 20), (0, u "java/lang/String"), (0, .string 22), (0, u "None"), (0, .string 24), (0, u "Sign"), (0, .string 26), (0, u "SignAndEncrypt"), (0, .methodref 8 28), (0, .nameAndType 29 30), (0, u "of"), (0, u "(ZZ)Lcom/example/pubframe/pubframe/message/SecurityMode;"), (0, .methodref 8 32), (0, .nameAndType 33 34), (0, u "specName"), (0, u "()Ljava/lang/String;"), (0, .methodref 19 36), (0, .nameAndType 37 38), (0, u "equals"), (0, u "(Ljava/lang/Object;)Z"), (0, .methodref 40 41), (0, .class_ 42), (0, .nameAndType 43 44), (0, u "com/example/pubframe/pubframe/message/SecurityModeOfPinLaw"), (0, u "rank"), (0, u "(Lcom/example/pubframe/pubframe/message/SecurityMode;)I"), (3, u "law"), (0, u "(II)Z")] 6

def k1m0 : Method := { name := "<init>", desc := "()V", sig := { parameters := [], returnType := none }, accessFlags := 2, code := none }
def k1c1 : Code := { maxStack := 2, maxLocals := 1, code := method_2_code, exceptionTable := #[], attributes := #[] }
def k1m1 : Method := { name := "rank", desc := "(Lcom/example/pubframe/pubframe/message/SecurityMode;)I", sig := { parameters := [(.object "com/example/pubframe/pubframe/message/SecurityMode")], returnType := some .int }, accessFlags := 10, code := some k1c1 }
def k1c2 : Code := { maxStack := 4, maxLocals := 10, code := code, exceptionTable := #[], attributes := #[] }
def k1m2 : Method := { name := "law", desc := "(II)Z", sig := { parameters := [.int, .int], returnType := some .boolean }, accessFlags := 9, code := some k1c2 }
/-- com/example/pubframe/pubframe/message/SecurityModeOfPinLaw -/
def k1 : Class := { plain "com/example/pubframe/pubframe/message/SecurityModeOfPinLaw" (some 0) with
  accessFlags := 49
  interfaces := #[]
  cf := some (fileOf pool1 40 #[] #[{ accessFlags := 2, nameIndex := 5, descriptorIndex := 6, attributes := #[] }, { accessFlags := 10, nameIndex := 43, descriptorIndex := 44, attributes := #[] }, { accessFlags := 9, nameIndex := 48, descriptorIndex := 49, attributes := #[] }] 49 2 #[] #[])
  fields := #[]
  methods := #[k1m0, k1m1, k1m2]
  instanceTypes := #[]
  staticTypes := #[]
  resolved := Array.replicate 56 none
  statics := none }

def pool2 : Array CpInfo := pool [(1, .class_ 2), (0, u "java/io/Serializable"), (0, .class_ 4), (0, u "java/lang/Object")] 2

/-- java/io/Serializable -/
def k2 : Class := { plain "java/io/Serializable" (some 0) with
  accessFlags := 1537
  interfaces := #[]
  cf := some (fileOf pool2 1 #[] #[] 1537 3 #[] #[])
  fields := #[]
  methods := #[]
  instanceTypes := #[]
  staticTypes := #[]
  resolved := Array.replicate 7 none
  statics := none }

def pool3 : Array CpInfo := pool [(1, .class_ 2), (0, u "java/lang/Comparable"), (0, .class_ 4), (0, u "java/lang/Object")] 7

/-- java/lang/Comparable -/
def k3 : Class := { plain "java/lang/Comparable" (some 0) with
  accessFlags := 1537
  interfaces := #[]
  cf := some (fileOf pool3 1 #[] #[] 1537 3 #[] #[])
  fields := #[]
  methods := #[]
  instanceTypes := #[]
  staticTypes := #[]
  resolved := Array.replicate 12 none
  statics := none }

def pool4 : Array CpInfo := pool [(2, .class_ 4), (1, u "java/lang/CharSequence"), (42, .class_ 48), (0, u "java/lang/CharSequence$1CodePointIterator"), (10, .class_ 60), (0, u "java/lang/CharSequence$1CharIterator"), (5, .class_ 67), (0, u "java/lang/Object")] 63

/-- java/lang/CharSequence -/
def k4 : Class := { plain "java/lang/CharSequence" (some 0) with
  accessFlags := 1537
  interfaces := #[]
  cf := some (fileOf pool4 2 #[.nestMembers #[47, 59]] #[] 1537 66 #[] #[])
  fields := #[]
  methods := #[]
  instanceTypes := #[]
  staticTypes := #[]
  resolved := Array.replicate 131 none
  statics := none }

def pool5 : Array CpInfo := pool [(1, .class_ 2), (0, u "java/lang/constant/Constable"), (0, .class_ 4), (0, u "java/lang/Object")] 6

/-- java/lang/constant/Constable -/
def k5 : Class := { plain "java/lang/constant/Constable" (some 0) with
  accessFlags := 1537
  interfaces := #[]
  cf := some (fileOf pool5 1 #[] #[] 1537 3 #[] #[])
  fields := #[]
  methods := #[]
  instanceTypes := #[]
  staticTypes := #[]
  resolved := Array.replicate 11 none
  statics := none }

def pool6 : Array CpInfo := pool [(1, .class_ 2), (0, u "java/lang/constant/ConstantDesc"), (0, .class_ 4), (0, u "java/lang/Object")] 32

/-- java/lang/constant/ConstantDesc -/
def k6 : Class := { plain "java/lang/constant/ConstantDesc" (some 0) with
  accessFlags := 1537
  interfaces := #[]
  cf := some (fileOf pool6 1 #[] #[] 1537 3 #[] #[])
  fields := #[]
  methods := #[]
  instanceTypes := #[]
  staticTypes := #[]
  resolved := Array.replicate 37 none
  statics := none }

def pool7 : Array CpInfo := pool [(2, .class_ 4), (1, u "java/lang/Object"), (0, u "<init>"), (0, u "()V"), (2, .fieldref 10 11), (0, .class_ 12), (0, .nameAndType 13 14), (0, u "java/lang/String"), (0, u "value"), (0, u "[B"), (0, .fieldref 10 16), (0, .nameAndType 17 18), (0, u "coder"), (0, u "B"), (2, u "hash"), (0, u "I"), (2, u "hashIsZero"), (0, u "Z"), (11, .fieldref 10 39), (0, .nameAndType 40 26), (0, u "COMPACT_STRINGS"), (66, .class_ 109), (1, u "java/lang/StringLatin1"), (431, .methodref 107 542), (0, .nameAndType 543 544), (0, u "equals"), (0, u "([B[B)Z"), (28, u "(Ljava/lang/Object;)Z"), (1, .class_ 576), (0, u "java/lang/CharSequence"), (22, u "CASE_INSENSITIVE_ORDER"), (0, u "Ljava/util/Comparator;"), (500, u "serialPersistentFields"), (0, u "[Ljava/io/ObjectStreamField;"), (0, .class_ 1104), (0, u "java/lang/String$CaseInsensitiveComparator"), (1, .class_ 1107), (0, u "java/io/Serializable"), (0, .class_ 1109), (0, u "java/lang/Comparable"), (0, .class_ 1111), (0, u "java/lang/constant/Constable"), (0, .class_ 1113), (0, u "java/lang/constant/ConstantDesc"), (2, u "serialVersionUID"), (0, u "J"), (3, u "REPL"), (0, u "C"), (2, u "LATIN1"), (1, u "UTF16")] 323

def k7m0 : Method := { name := "<init>", desc := "()V", sig := { parameters := [], returnType := none }, accessFlags := 1, code := none }
def k7c1 : Code := { maxStack := 2, maxLocals := 3, code := jdk_42_method_66_code, exceptionTable := #[], attributes := #[] }
def k7m1 : Method := { name := "equals", desc := "(Ljava/lang/Object;)Z", sig := { parameters := [(.object "java/lang/Object")], returnType := some .boolean }, accessFlags := 1, code := some k7c1 }
/-- java/lang/String -/
def k7 : Class := { plain "java/lang/String" (some 0) with
  accessFlags := 49
  interfaces := #[2, 3, 4, 5, 6]
  cf := some (fileOf pool7 10 #[.nestMembers #[1103]] #[{ accessFlags := 1, nameIndex := 5, descriptorIndex := 6, attributes := #[] }, { accessFlags := 1, nameIndex := 543, descriptorIndex := 573, attributes := #[] }] 49 2 #[1106, 1108, 575, 1110, 1112] #[{ accessFlags := 18, nameIndex := 13, descriptorIndex := 14, attributes := #[] }, { accessFlags := 18, nameIndex := 17, descriptorIndex := 18, attributes := #[] }, { accessFlags := 2, nameIndex := 21, descriptorIndex := 22, attributes := #[] }, { accessFlags := 2, nameIndex := 25, descriptorIndex := 26, attributes := #[] }, { accessFlags := 26, nameIndex := 1116, descriptorIndex := 1117, attributes := #[] }, { accessFlags := 24, nameIndex := 40, descriptorIndex := 26, attributes := #[] }, { accessFlags := 26, nameIndex := 1101, descriptorIndex := 1102, attributes := #[] }, { accessFlags := 26, nameIndex := 1121, descriptorIndex := 1122, attributes := #[] }, { accessFlags := 25, nameIndex := 599, descriptorIndex := 600, attributes := #[] }, { accessFlags := 24, nameIndex := 1125, descriptorIndex := 18, attributes := #[] }, { accessFlags := 24, nameIndex := 1127, descriptorIndex := 18, attributes := #[] }])
  fields := #[{ name := "value", type := (.array .byte), accessFlags := 18, slot := 0, constantValue := 0 }, { name := "coder", type := .byte, accessFlags := 18, slot := 1, constantValue := 0 }, { name := "hash", type := .int, accessFlags := 2, slot := 2, constantValue := 0 }, { name := "hashIsZero", type := .boolean, accessFlags := 2, slot := 3, constantValue := 0 }, { name := "serialVersionUID", type := .long, accessFlags := 26, slot := 0, constantValue := 0 }, { name := "COMPACT_STRINGS", type := .boolean, accessFlags := 24, slot := 1, constantValue := 0 }, { name := "serialPersistentFields", type := (.array (.object "java/io/ObjectStreamField")), accessFlags := 26, slot := 2, constantValue := 0 }, { name := "REPL", type := .char, accessFlags := 26, slot := 3, constantValue := 0 }, { name := "CASE_INSENSITIVE_ORDER", type := (.object "java/util/Comparator"), accessFlags := 25, slot := 4, constantValue := 0 }, { name := "LATIN1", type := .byte, accessFlags := 24, slot := 5, constantValue := 0 }, { name := "UTF16", type := .byte, accessFlags := 24, slot := 6, constantValue := 0 }]
  methods := #[k7m0, k7m1]
  instanceTypes := #[(.array .byte), .byte, .int, .boolean]
  staticTypes := #[.long, .boolean, (.array (.object "java/io/ObjectStreamField")), .char, (.object "java/util/Comparator"), .byte, .byte]
  resolved := Array.replicate 1451 none
  statics := some 0 }

def pool8 : Array CpInfo := pool [(2, .class_ 4), (1, u "java/lang/Enum"), (0, u "name"), (0, u "Ljava/lang/String;"), (2, u "ordinal"), (0, u "I"), (1, .class_ 14), (1, u "java/lang/Object"), (4, u "hash"), (86, .class_ 108), (1, u "java/lang/Enum$EnumDesc"), (2, .class_ 112), (0, u "java/lang/constant/Constable"), (0, .class_ 114), (0, u "java/lang/Comparable"), (0, .class_ 116), (0, u "java/io/Serializable")] 87

/-- java/lang/Enum -/
def k8 : Class := { plain "java/lang/Enum" (some 0) with
  accessFlags := 1057
  interfaces := #[5, 3, 2]
  cf := some (fileOf pool8 2 #[.nestMembers #[106]] #[] 1057 12 #[111, 113, 115] #[{ accessFlags := 18, nameIndex := 5, descriptorIndex := 6, attributes := #[] }, { accessFlags := 18, nameIndex := 9, descriptorIndex := 10, attributes := #[] }, { accessFlags := 2, nameIndex := 19, descriptorIndex := 10, attributes := #[] }])
  fields := #[{ name := "name", type := (.object "java/lang/String"), accessFlags := 18, slot := 0, constantValue := 0 }, { name := "ordinal", type := .int, accessFlags := 18, slot := 1, constantValue := 0 }, { name := "hash", type := .int, accessFlags := 2, slot := 2, constantValue := 0 }]
  methods := #[]
  instanceTypes := #[(.object "java/lang/String"), .int, .int]
  staticTypes := #[]
  resolved := Array.replicate 204 none
  statics := none }

def pool9 : Array CpInfo := pool [(1, .class_ 2), (0, u "com/example/pubframe/pubframe/message/SecurityMode"), (0, .fieldref 1 4), (0, .nameAndType 5 6), (0, u "NONE"), (0, u "Lcom/example/pubframe/pubframe/message/SecurityMode;"), (0, .fieldref 1 8), (0, .nameAndType 9 6), (0, u "SIGN"), (0, .fieldref 1 11), (0, .nameAndType 12 6), (0, u "SIGN_AND_ENCRYPT"), (2, u "$VALUES"), (0, u "[Lcom/example/pubframe/pubframe/message/SecurityMode;"), (6, .class_ 25), (1, u "java/lang/Enum"), (6, .fieldref 1 33), (0, .nameAndType 34 35), (0, u "specName"), (0, u "Ljava/lang/String;"), (23, u "of"), (0, u "(ZZ)Lcom/example/pubframe/pubframe/message/SecurityMode;"), (1, u "()Ljava/lang/String;")] 5

def k9c0 : Code := { maxStack := 1, maxLocals := 3, code := prog_35_method_4_code, exceptionTable := #[], attributes := #[] }
def k9m0 : Method := { name := "of", desc := "(ZZ)Lcom/example/pubframe/pubframe/message/SecurityMode;", sig := { parameters := [.boolean, .boolean], returnType := some (.object "com/example/pubframe/pubframe/message/SecurityMode") }, accessFlags := 9, code := some k9c0 }
def k9c1 : Code := { maxStack := 1, maxLocals := 1, code := prog_35_method_5_code, exceptionTable := #[], attributes := #[] }
def k9m1 : Method := { name := "specName", desc := "()Ljava/lang/String;", sig := { parameters := [], returnType := some (.object "java/lang/String") }, accessFlags := 1, code := some k9c1 }
/-- com/example/pubframe/pubframe/message/SecurityMode -/
def k9 : Class := { plain "com/example/pubframe/pubframe/message/SecurityMode" (some 8) with
  accessFlags := 16433
  interfaces := #[]
  cf := some (fileOf pool9 1 #[] #[{ accessFlags := 9, nameIndex := 59, descriptorIndex := 60, attributes := #[] }, { accessFlags := 1, nameIndex := 34, descriptorIndex := 62, attributes := #[] }] 16433 23 #[] #[{ accessFlags := 16409, nameIndex := 5, descriptorIndex := 6, attributes := #[] }, { accessFlags := 16409, nameIndex := 9, descriptorIndex := 6, attributes := #[] }, { accessFlags := 16409, nameIndex := 12, descriptorIndex := 6, attributes := #[] }, { accessFlags := 18, nameIndex := 34, descriptorIndex := 35, attributes := #[] }, { accessFlags := 4122, nameIndex := 15, descriptorIndex := 16, attributes := #[] }])
  fields := #[{ name := "NONE", type := (.object "com/example/pubframe/pubframe/message/SecurityMode"), accessFlags := 16409, slot := 0, constantValue := 0 }, { name := "SIGN", type := (.object "com/example/pubframe/pubframe/message/SecurityMode"), accessFlags := 16409, slot := 1, constantValue := 0 }, { name := "SIGN_AND_ENCRYPT", type := (.object "com/example/pubframe/pubframe/message/SecurityMode"), accessFlags := 16409, slot := 2, constantValue := 0 }, { name := "specName", type := (.object "java/lang/String"), accessFlags := 18, slot := 3, constantValue := 0 }, { name := "$VALUES", type := (.array (.object "com/example/pubframe/pubframe/message/SecurityMode")), accessFlags := 4122, slot := 3, constantValue := 0 }]
  methods := #[k9m0, k9m1]
  instanceTypes := #[(.object "java/lang/String"), .int, .int, (.object "java/lang/String")]
  staticTypes := #[(.object "com/example/pubframe/pubframe/message/SecurityMode"), (.object "com/example/pubframe/pubframe/message/SecurityMode"), (.object "com/example/pubframe/pubframe/message/SecurityMode"), (.array (.object "com/example/pubframe/pubframe/message/SecurityMode"))]
  resolved := Array.replicate 68 none
  statics := some 1 }

def pool10 : Array CpInfo := pool [(4, .class_ 6), (1, u "java/lang/Object"), (0, u "<init>"), (0, u "()V"), (5, .class_ 16), (1, u "java/lang/StringLatin1"), (104, u "$assertionsDisabled"), (0, u "Z"), (98, .class_ 223), (1, u "java/lang/StringLatin1$LinesSpliterator"), (57, u "equals"), (0, u "([B[B)Z"), (107, .class_ 391), (0, u "java/lang/StringLatin1$CharsSpliterator")] 3

def k10m0 : Method := { name := "<init>", desc := "()V", sig := { parameters := [], returnType := none }, accessFlags := 0, code := none }
def k10c1 : Code := { maxStack := 3, maxLocals := 3, code := jdk_43_method_13_code, exceptionTable := #[], attributes := #[] }
def k10m1 : Method := { name := "equals", desc := "([B[B)Z", sig := { parameters := [(.array .byte), (.array .byte)], returnType := some .boolean }, accessFlags := 9, code := some k10c1 }
/-- java/lang/StringLatin1 -/
def k10 : Class := { plain "java/lang/StringLatin1" (some 0) with
  accessFlags := 48
  interfaces := #[]
  cf := some (fileOf pool10 14 #[.nestMembers #[390, 221]] #[{ accessFlags := 0, nameIndex := 7, descriptorIndex := 8, attributes := #[] }, { accessFlags := 9, nameIndex := 281, descriptorIndex := 282, attributes := #[] }] 48 4 #[] #[{ accessFlags := 4120, nameIndex := 121, descriptorIndex := 122, attributes := #[] }])
  fields := #[{ name := "$assertionsDisabled", type := .boolean, accessFlags := 4120, slot := 0, constantValue := 0 }]
  methods := #[k10m0, k10m1]
  instanceTypes := #[]
  staticTypes := #[.boolean]
  resolved := Array.replicate 395 none
  statics := none }

def pool11 : Array CpInfo := pool [(2, .class_ 4), (1, u "java/lang/Object"), (0, u "<init>"), (0, u "()V"), (17, .class_ 26), (1, u "jdk/internal/util/Preconditions"), (28, .class_ 56), (0, u "jdk/internal/util/Preconditions$4"), (57, .class_ 115), (0, u "jdk/internal/util/Preconditions$1"), (7, u "SIOOBE_FORMATTER"), (0, u "Ljava/util/function/BiFunction;"), (0, .class_ 126), (0, u "jdk/internal/util/Preconditions$2"), (3, u "AIOOBE_FORMATTER"), (0, .class_ 132), (0, u "jdk/internal/util/Preconditions$3"), (3, u "IOOBE_FORMATTER")] 57

def k11m0 : Method := { name := "<init>", desc := "()V", sig := { parameters := [], returnType := none }, accessFlags := 1, code := none }
/-- jdk/internal/util/Preconditions -/
def k11 : Class := { plain "jdk/internal/util/Preconditions" (some 0) with
  accessFlags := 33
  interfaces := #[]
  cf := some (fileOf pool11 24 #[.nestMembers #[55, 131, 125, 114]] #[{ accessFlags := 1, nameIndex := 5, descriptorIndex := 6, attributes := #[] }] 33 2 #[] #[{ accessFlags := 25, nameIndex := 123, descriptorIndex := 124, attributes := #[] }, { accessFlags := 25, nameIndex := 130, descriptorIndex := 124, attributes := #[] }, { accessFlags := 25, nameIndex := 136, descriptorIndex := 124, attributes := #[] }])
  fields := #[{ name := "SIOOBE_FORMATTER", type := (.object "java/util/function/BiFunction"), accessFlags := 25, slot := 0, constantValue := 0 }, { name := "AIOOBE_FORMATTER", type := (.object "java/util/function/BiFunction"), accessFlags := 25, slot := 1, constantValue := 0 }, { name := "IOOBE_FORMATTER", type := (.object "java/util/function/BiFunction"), accessFlags := 25, slot := 2, constantValue := 0 }]
  methods := #[k11m0]
  instanceTypes := #[]
  staticTypes := #[(.object "java/util/function/BiFunction"), (.object "java/util/function/BiFunction"), (.object "java/util/function/BiFunction")]
  resolved := Array.replicate 194 none
  statics := some 2 }

def pool12 : Array CpInfo := pool [(9, u "<init>"), (6, .class_ 18), (1, u "java/lang/Object"), (0, u "()V"), (1, .class_ 23), (1, u "jdk/internal/util/ArraysSupport"), (0, u "LOG2_ARRAY_LONG_INDEX_SCALE"), (0, u "I"), (2, u "U"), (0, u "Ljdk/internal/misc/Unsafe;"), (8, u "BIG_ENDIAN"), (0, u "Z"), (8, u "LOG2_BYTE_BIT_SIZE"), (4, u "LOG2_ARRAY_INT_INDEX_SCALE"), (54, u "JLA"), (0, u "Ljdk/internal/access/JavaLangAccess;"), (11, u "LOG2_ARRAY_BOOLEAN_INDEX_SCALE"), (9, u "LOG2_ARRAY_BYTE_INDEX_SCALE"), (5, u "LOG2_ARRAY_CHAR_INDEX_SCALE"), (5, u "LOG2_ARRAY_SHORT_INDEX_SCALE"), (18, u "LOG2_ARRAY_FLOAT_INDEX_SCALE"), (24, u "LOG2_ARRAY_DOUBLE_INDEX_SCALE"), (89, u "T_BOOLEAN"), (2, u "T_CHAR"), (1, u "T_FLOAT"), (1, u "T_DOUBLE"), (1, u "T_BYTE"), (1, u "T_SHORT"), (1, u "T_INT"), (1, u "T_LONG"), (1, u "SOFT_MAX_ARRAY_LENGTH")] 83

def k12m0 : Method := { name := "<init>", desc := "()V", sig := { parameters := [], returnType := none }, accessFlags := 2, code := none }
/-- jdk/internal/util/ArraysSupport -/
def k12 : Class := { plain "jdk/internal/util/ArraysSupport" (some 0) with
  accessFlags := 33
  interfaces := #[]
  cf := some (fileOf pool12 21 #[] #[{ accessFlags := 2, nameIndex := 9, descriptorIndex := 19, attributes := #[] }] 33 16 #[] #[{ accessFlags := 24, nameIndex := 28, descriptorIndex := 29, attributes := #[] }, { accessFlags := 26, nameIndex := 38, descriptorIndex := 39, attributes := #[] }, { accessFlags := 25, nameIndex := 121, descriptorIndex := 25, attributes := #[] }, { accessFlags := 25, nameIndex := 131, descriptorIndex := 25, attributes := #[] }, { accessFlags := 25, nameIndex := 137, descriptorIndex := 25, attributes := #[] }, { accessFlags := 25, nameIndex := 143, descriptorIndex := 25, attributes := #[] }, { accessFlags := 25, nameIndex := 53, descriptorIndex := 25, attributes := #[] }, { accessFlags := 25, nameIndex := 24, descriptorIndex := 25, attributes := #[] }, { accessFlags := 25, nameIndex := 162, descriptorIndex := 25, attributes := #[] }, { accessFlags := 25, nameIndex := 187, descriptorIndex := 25, attributes := #[] }, { accessFlags := 26, nameIndex := 48, descriptorIndex := 25, attributes := #[] }, { accessFlags := 25, nameIndex := 277, descriptorIndex := 25, attributes := #[] }, { accessFlags := 25, nameIndex := 280, descriptorIndex := 25, attributes := #[] }, { accessFlags := 25, nameIndex := 282, descriptorIndex := 25, attributes := #[] }, { accessFlags := 25, nameIndex := 284, descriptorIndex := 25, attributes := #[] }, { accessFlags := 25, nameIndex := 286, descriptorIndex := 25, attributes := #[] }, { accessFlags := 25, nameIndex := 288, descriptorIndex := 25, attributes := #[] }, { accessFlags := 25, nameIndex := 290, descriptorIndex := 25, attributes := #[] }, { accessFlags := 25, nameIndex := 292, descriptorIndex := 25, attributes := #[] }, { accessFlags := 26, nameIndex := 108, descriptorIndex := 109, attributes := #[] }, { accessFlags := 25, nameIndex := 294, descriptorIndex := 25, attributes := #[] }])
  fields := #[{ name := "U", type := (.object "jdk/internal/misc/Unsafe"), accessFlags := 24, slot := 0, constantValue := 0 }, { name := "BIG_ENDIAN", type := .boolean, accessFlags := 26, slot := 1, constantValue := 0 }, { name := "LOG2_ARRAY_BOOLEAN_INDEX_SCALE", type := .int, accessFlags := 25, slot := 2, constantValue := 0 }, { name := "LOG2_ARRAY_BYTE_INDEX_SCALE", type := .int, accessFlags := 25, slot := 3, constantValue := 0 }, { name := "LOG2_ARRAY_CHAR_INDEX_SCALE", type := .int, accessFlags := 25, slot := 4, constantValue := 0 }, { name := "LOG2_ARRAY_SHORT_INDEX_SCALE", type := .int, accessFlags := 25, slot := 5, constantValue := 0 }, { name := "LOG2_ARRAY_INT_INDEX_SCALE", type := .int, accessFlags := 25, slot := 6, constantValue := 0 }, { name := "LOG2_ARRAY_LONG_INDEX_SCALE", type := .int, accessFlags := 25, slot := 7, constantValue := 0 }, { name := "LOG2_ARRAY_FLOAT_INDEX_SCALE", type := .int, accessFlags := 25, slot := 8, constantValue := 0 }, { name := "LOG2_ARRAY_DOUBLE_INDEX_SCALE", type := .int, accessFlags := 25, slot := 9, constantValue := 0 }, { name := "LOG2_BYTE_BIT_SIZE", type := .int, accessFlags := 26, slot := 10, constantValue := 0 }, { name := "T_BOOLEAN", type := .int, accessFlags := 25, slot := 11, constantValue := 0 }, { name := "T_CHAR", type := .int, accessFlags := 25, slot := 12, constantValue := 0 }, { name := "T_FLOAT", type := .int, accessFlags := 25, slot := 13, constantValue := 0 }, { name := "T_DOUBLE", type := .int, accessFlags := 25, slot := 14, constantValue := 0 }, { name := "T_BYTE", type := .int, accessFlags := 25, slot := 15, constantValue := 0 }, { name := "T_SHORT", type := .int, accessFlags := 25, slot := 16, constantValue := 0 }, { name := "T_INT", type := .int, accessFlags := 25, slot := 17, constantValue := 0 }, { name := "T_LONG", type := .int, accessFlags := 25, slot := 18, constantValue := 0 }, { name := "JLA", type := (.object "jdk/internal/access/JavaLangAccess"), accessFlags := 26, slot := 19, constantValue := 0 }, { name := "SOFT_MAX_ARRAY_LENGTH", type := .int, accessFlags := 25, slot := 20, constantValue := 0 }]
  methods := #[k12m0]
  instanceTypes := #[]
  staticTypes := #[(.object "jdk/internal/misc/Unsafe"), .boolean, .int, .int, .int, .int, .int, .int, .int, .int, .int, .int, .int, .int, .int, .int, .int, .int, .int, (.object "jdk/internal/access/JavaLangAccess"), .int]
  resolved := Array.replicate 378 none
  statics := none }

def pool13 : Array CpInfo := pool [(1, u "java/lang/Cloneable"), (0, .class_ 1), (0, u "java/lang/Object"), (0, .class_ 3)] 3

/-- java/lang/Cloneable -/
def k13 : Class := { plain "java/lang/Cloneable" (some 0) with
  accessFlags := 1537
  interfaces := #[]
  cf := some (fileOf pool13 2 #[] #[] 1537 4 #[] #[])
  fields := #[]
  methods := #[]
  instanceTypes := #[]
  staticTypes := #[]
  resolved := Array.replicate 8 none
  statics := none }

/-- the primitive byte -/
def k14 : Class := { plain "byte" none with kind := .primitive 'B', accessFlags := 0x411 }
/-- [B -/
def k15 : Class := { plain "[B" (some 0) with kind := .array 14 .byte, interfaces := #[13, 2], accessFlags := 1041 }

/-- the primitive int -/
def k16 : Class := { plain "int" none with kind := .primitive 'I', accessFlags := 0x411 }
/-- [I -/
def k17 : Class := { plain "[I" (some 0) with kind := .array 16 .int, interfaces := #[13, 2], accessFlags := 1041 }

/-- [Lcom/example/pubframe/pubframe/message/SecurityMode; -/
def k18 : Class := { plain "[Lcom/example/pubframe/pubframe/message/SecurityMode;" (some 0) with kind := .array 9 (.object "com/example/pubframe/pubframe/message/SecurityMode"), interfaces := #[13, 2], accessFlags := 1041 }

/-- [Ljava/lang/String; -/
def k19 : Class := { plain "[Ljava/lang/String;" (some 0) with kind := .array 7 (.object "java/lang/String"), interfaces := #[13, 2], accessFlags := 1041 }

def heap : Heap := #[{ cls := 7, slots := #[.long 0, .int 1, .null, .int 0, .null, .int 0, .int 0], vm := .statics 7 },
  { cls := 9, slots := #[.ref 3, .ref 4, .ref 5, .null], vm := .statics 9 },
  { cls := 11, slots := #[.null, .null, .null], vm := .statics 11 },
  { cls := 9, slots := #[.null, .int 0, .int 0, .ref 6], vm := .none },
  { cls := 9, slots := #[.null, .int 1, .int 0, .ref 7], vm := .none },
  { cls := 9, slots := #[.null, .int 2, .int 0, .ref 8], vm := .none },
  { cls := 7, slots := #[.ref 9, .int 0, .int 0, .int 0], vm := .none },
  { cls := 7, slots := #[.ref 10, .int 0, .int 0, .int 0], vm := .none },
  { cls := 7, slots := #[.ref 11, .int 0, .int 0, .int 0], vm := .none },
  { cls := 15, slots := #[.int 78, .int 111, .int 110, .int 101], vm := .none },
  { cls := 15, slots := #[.int 83, .int 105, .int 103, .int 110], vm := .none },
  { cls := 15, slots := #[.int 83, .int 105, .int 103, .int 110, .int 65, .int 110, .int 100, .int 69, .int 110, .int 99, .int 114, .int 121, .int 112, .int 116], vm := .none }]
def classes : Array Class := #[k0, k1, k2, k3, k4, k5, k6, k7, k8, k9, k10, k11, k12, k13, k14, k15, k16, k17, k18, k19]
def interned : List (Array UInt16 × Addr) := []
def slotsUsed : Nat := 60
def theMethod : MethodId := ⟨1, 2⟩
def args0 : Array Value := #[.int 5, .int 9]
def aboutOver (below : List Frame) : State where
  vm := { classes := classes, interned := interned.toArray }
  heap := heap
  slotsUsed := slotsUsed
  threads := #[{ frames := .invoking theMethod args0 :: below }]
def below0 : List Frame := [.native { method := ⟨0, 0⟩, args := #[] }]
def about1 : State := aboutOver below0
def p0 : Program := .bare "" "" ""
def e0 : Env := launch0.env 0 0 0
theorem w_frames : about1.frames = Frame.invoking theMethod args0 :: below0 := rfl
set_option maxRecDepth 65536 in
theorem w_args : argsFit about1.vm theMethod args0 = true := by decide +kernel
set_option maxRecDepth 65536 in
theorem w_heap : heapFits about1 = true := by decide +kernel
set_option maxRecDepth 65536 in
theorem w_runnable : about1.curStatus? = some .runnable := by decide +kernel
set_option maxRecDepth 65536 in
theorem w_alone : about1.alone = true := by decide +kernel
set_option maxRecDepth 65536 in
theorem w_named : about1.methodNamed? x = some theMethod := by decide +kernel
set_option maxRecDepth 65536 in
theorem w_hears : about1.hears theMethod below0 = true := by decide +kernel
set_option maxRecDepth 65536 in
theorem w_ripe : about1.ripe theMethod args0 below0 = true := by decide +kernel
theorem w_running : about1.status = .running := rfl
set_option maxRecDepth 65536 in
theorem w_room : about1.hasRoom e0.platform room_1 = true :=
  launch0.hasRoom_least _ room_1 (by decide +kernel) (by decide +kernel) (by decide +kernel) (by decide +kernel) (by decide +kernel) (by decide +kernel)
theorem allAtoms_all (ts : List Jvm.Cond) (a : Array Jvm.Value) (st : Jvm.State) : (allAtoms ts).before a st = ts.all (fun c => c.before a st) := by
  induction ts with
  | nil => rfl
  | cons c t ih =>
    show (Jvm.Cond.and c (allAtoms t)).before a st = _
    rw [Jvm.Cond.before_and, ih, List.all_cons]
def words1 : List Jvm.Cond := Jvm.Cond.code x code maxLocals ret :: tables_1
/-- a 'code' word, met by the world's own term for the bytes: nothing is compared byte by byte -/
theorem code_word {y : MethodName} {bytes : ByteArray} {mx : Nat} {rt : Option FieldType} {a : Array Value} {s : State} {m : MethodId} {meth : Method} {c : Code} (h1 : s.methodNamed? y = some m) (h2 : s.vm.method? m = some meth) (h3 : meth.code = some c) (h4 : c.code = bytes)
    (h5 : (c.maxLocals == mx && c.exceptionTable.isEmpty && decide (c.maxStack ≤ mostOperands) && decide (meth.sig.returnType = rt) && !meth.locks && decide (parseMethodDescriptor y.desc = some meth.sig)) = true) : (Jvm.Cond.code y bytes mx rt).before a s = true := by
  simp only [Bool.and_eq_true, beq_iff_eq, Bool.not_eq_true', decide_eq_true_eq] at h5
  obtain ⟨⟨⟨⟨⟨g1, g2⟩, g3⟩, g4⟩, g5⟩, g6⟩ := h5
  simp [Cond.before, Cond.holds, Cond.value, h1, h2, h3, h4, g1, g2, g3, g4, g5, g6]
def isCode : Jvm.Cond → Bool
  | .code _ _ _ _ => true
  | _ => false
theorem all_split {L : List Jvm.Cond} {P : Jvm.Cond → Bool} (h1 : L.all (fun c => isCode c || P c) = true) (h2 : ∀ c ∈ L.filter isCode, P c = true) : L.all P = true := by
  refine List.all_eq_true.mpr fun c hc => ?_
  have h := List.all_eq_true.mp h1 c hc
  rcases Bool.eq_false_or_eq_true (isCode c) with hi | hi
  · exact h2 c (List.mem_filter.mpr ⟨hc, hi⟩)
  · simpa [hi] using h
set_option maxRecDepth 65536 in
theorem w_c0 : (Jvm.Cond.code x code maxLocals ret).before args0 about1 = true := code_word (m := ⟨1, 2⟩) (meth := k1m2) (c := k1c2) (by decide +kernel) rfl rfl rfl (by decide +kernel)
set_option maxRecDepth 65536 in
theorem w_c1 : (Jvm.Cond.code ({ cls := "com/example/pubframe/pubframe/message/SecurityMode", name := "of", desc := "(ZZ)Lcom/example/pubframe/pubframe/message/SecurityMode;" } : Jvm.MethodName) prog_35_method_4_code (3 : Nat) (Option.some (Jvm.ClassFile.FieldType.object "com/example/pubframe/pubframe/message/SecurityMode"))).before args0 about1 = true := code_word (m := ⟨9, 0⟩) (meth := k9m0) (c := k9c0) (by decide +kernel) rfl rfl rfl (by decide +kernel)
set_option maxRecDepth 65536 in
theorem w_c2 : (Jvm.Cond.code ({ cls := "com/example/pubframe/pubframe/message/SecurityMode", name := "specName", desc := "()Ljava/lang/String;" } : Jvm.MethodName) prog_35_method_5_code (1 : Nat) (Option.some (Jvm.ClassFile.FieldType.object "java/lang/String"))).before args0 about1 = true := code_word (m := ⟨9, 1⟩) (meth := k9m1) (c := k9c1) (by decide +kernel) rfl rfl rfl (by decide +kernel)
set_option maxRecDepth 65536 in
theorem w_c3 : (Jvm.Cond.code ({ cls := "java/lang/String", name := "equals", desc := "(Ljava/lang/Object;)Z" } : Jvm.MethodName) jdk_42_method_66_code (3 : Nat) (Option.some Jvm.ClassFile.FieldType.boolean)).before args0 about1 = true := code_word (m := ⟨7, 1⟩) (meth := k7m1) (c := k7c1) (by decide +kernel) rfl rfl rfl (by decide +kernel)
set_option maxRecDepth 65536 in
theorem w_c4 : (Jvm.Cond.code ({ cls := "java/lang/StringLatin1", name := "equals", desc := "([B[B)Z" } : Jvm.MethodName) jdk_43_method_13_code (3 : Nat) (Option.some Jvm.ClassFile.FieldType.boolean)).before args0 about1 = true := code_word (m := ⟨10, 1⟩) (meth := k10m1) (c := k10c1) (by decide +kernel) rfl rfl rfl (by decide +kernel)
set_option maxRecDepth 65536 in
theorem w_c5 : (Jvm.Cond.code ({ cls := "com/example/pubframe/pubframe/message/SecurityModeOfPinLaw", name := "rank", desc := "(Lcom/example/pubframe/pubframe/message/SecurityMode;)I" } : Jvm.MethodName) method_2_code (1 : Nat) (Option.some Jvm.ClassFile.FieldType.int)).before args0 about1 = true := code_word (m := ⟨1, 1⟩) (meth := k1m1) (c := k1c1) (by decide +kernel) rfl rfl rfl (by decide +kernel)
def codes1 : List Jvm.Cond := [Jvm.Cond.code x code maxLocals ret, Jvm.Cond.code ({ cls := "com/example/pubframe/pubframe/message/SecurityMode", name := "of", desc := "(ZZ)Lcom/example/pubframe/pubframe/message/SecurityMode;" } : Jvm.MethodName) prog_35_method_4_code (3 : Nat) (Option.some (Jvm.ClassFile.FieldType.object "com/example/pubframe/pubframe/message/SecurityMode")), Jvm.Cond.code ({ cls := "com/example/pubframe/pubframe/message/SecurityMode", name := "specName", desc := "()Ljava/lang/String;" } : Jvm.MethodName) prog_35_method_5_code (1 : Nat) (Option.some (Jvm.ClassFile.FieldType.object "java/lang/String")), Jvm.Cond.code ({ cls := "java/lang/String", name := "equals", desc := "(Ljava/lang/Object;)Z" } : Jvm.MethodName) jdk_42_method_66_code (3 : Nat) (Option.some Jvm.ClassFile.FieldType.boolean), Jvm.Cond.code ({ cls := "java/lang/StringLatin1", name := "equals", desc := "([B[B)Z" } : Jvm.MethodName) jdk_43_method_13_code (3 : Nat) (Option.some Jvm.ClassFile.FieldType.boolean), Jvm.Cond.code ({ cls := "com/example/pubframe/pubframe/message/SecurityModeOfPinLaw", name := "rank", desc := "(Lcom/example/pubframe/pubframe/message/SecurityMode;)I" } : Jvm.MethodName) method_2_code (1 : Nat) (Option.some Jvm.ClassFile.FieldType.int)]
set_option maxRecDepth 65536 in
theorem codes_eq : words1.filter isCode = codes1 := rfl
theorem w_codes : ∀ c ∈ words1.filter isCode, c.before args0 about1 = true := by
  rw [codes_eq]
  intro c hc
  simp only [codes1, List.mem_cons, List.not_mem_nil, or_false] at hc
  rcases hc with rfl | rfl | rfl | rfl | rfl | rfl
  · exact w_c0
  · exact w_c1
  · exact w_c2
  · exact w_c3
  · exact w_c4
  · exact w_c5
set_option maxRecDepth 65536 in
theorem w_t1 : (words1.take 24).all (fun c => isCode c || c.before args0 about1) = true := by decide +kernel
set_option maxRecDepth 65536 in
theorem w_t2 : ((words1.drop 24).take 24).all (fun c => isCode c || c.before args0 about1) = true := by decide +kernel
set_option maxRecDepth 65536 in
theorem w_t3 : ((words1.drop 24).drop 24).all (fun c => isCode c || c.before args0 about1) = true := by decide +kernel
theorem w_tables : (allAtoms (Jvm.Cond.code x code maxLocals ret :: tables_1)).before args0 about1 = true := by
  rw [allAtoms_all]
  show words1.all (fun c => c.before args0 about1) = true
  refine all_split ?_ w_codes
  rw [← List.take_append_drop 24 words1, List.all_append, w_t1, ← List.take_append_drop 24 (words1.drop 24), List.all_append, w_t2, w_t3]
  rfl
set_option maxRecDepth 65536 in
theorem w_rest : rest_1_c.before args0 about1 = true := by decide +kernel
set_option maxRecDepth 65536 in
theorem w_case : (Jvm.Cond.and given_1 narrow_1).before args0 about1 = true := by decide +kernel
set_option maxRecDepth 65536 in
theorem w_consts : constsHeld consts_1 about1 := Jvm.Lit.constsHeldB_iff.mp (by decide +kernel)
theorem w_applies : (headSpec (Jvm.Cond.code x code maxLocals ret :: tables_1) room_1).applies x e0.platform about1 = true :=
  (Spec.applies_iff w_frames).mpr ⟨w_running, w_runnable, w_alone, w_named, w_hears, w_ripe, w_room, w_tables⟩
theorem atStart : AtStart classFile x code maxLocals ret World_1 tables_1 room_1 Calls_1 rest_1 Pre_1 launch0 p0 e0 about1 theMethod args0 below0 :=
  ⟨lists_1, trivial, launch0.admits_env _ _ _, launch0.least_env, fairChoices_fair.cas, fairChoices_fair.clock, w_frames, w_args, w_heap, w_applies, ⟨w_consts, trivial⟩, w_rest, w_case⟩
end start1
theorem witness_1 : WitnessClaimed_1 := ⟨start1.p0, start1.e0, start1.about1, start1.theMethod, start1.args0, start1.below0, start1.atStart⟩
end Jvm.Pilot.@@N@@
