import JvmDerived
import JvmDerived.Pilot.@@N@@Statement
import JvmDerived.Pilot.@@N@@Code
set_option linter.unusedVariables false
set_option linter.unusedSimpArgs false
namespace Jvm.Own
open Sem ClassFile Op Lib Jvm.Stand Jvm.Free Jvm.LawKit Jvm.RoadKit Jvm.Free.Fl
/-- where a walk stands -/
def St (p : Program) (l : Launch) (e : Env) (R : Room) (s : State) (m : MethodId) (args : Array Value) (below : List Frame) (meth : Method) (c : Code) (Z : State) (B : ByteArray) (own nm : String) (ml : Nat) (ret : Option FieldType) (n0 : Nat) (T : State) (h : Heap) (k n : Nat) : Prop :=
  (p.tables.exec = Jvm.exec ∧ c.code = B ∧ Z.Warmed39 s.vm ∧ s.vm.findClass own = some m.cls ∧ c.maxLocals = ml ∧ meth.sig.returnType = ret ∧ meth.locks = false ∧ meth.name = nm) ∧ ∃ locs, Stand p l e R s m args below meth c T locs k n ∧ T.heap = h ∧ Fr n0 locs
/-- what is left to show of a walk: it ends, and what it leaves is Q -/
def Go (p : Program) (e : Env) (below : List Frame) (s : State) (n0 : Nat) (Q : Option Value → Heap → Prop) (kC kS : Nat) (t : State) : Prop :=
  ∃ s₂ o, Steps p.tables e below t s₂ ∧ s₂.status = .running ∧ Ended s₂ below o ∧ ∃ v L, o = .returned v ∧ (Q v s₂.heap ∧ Fr n0 L) ∧ FrameEnd s o s₂ L kC kS
/-- a body's contract -/
def Con (l : Launch) (Z : State) (y : MethodName) (ws : List Jvm.Cond) (B : ByteArray) (ml : Nat) (ret : Option FieldType) (rm : Room) (as : Array Value) (h0 : Heap) (n0 : Nat) (Q : Option Value → Heap → Prop) : Prop :=
  MetFree l y (head1 (Cond.code y B ml ret :: ws) rm) (fun a U => a = as ∧ Z.Warmed39 U.vm ∧ U.heap = h0) (fun _ _ _ _ _ => True) (fun _ U o U' => ∃ v L, o = .returned v ∧ (Q v U'.heap ∧ Fr n0 L) ∧ FrameEnd U o U' L rm.cells rm.slots)
theorem wd {ws : List Jvm.Cond} {a0 : Array Value} {Z : State} (hw : ∀ d ∈ ws, d.before a0 Z = true) (i : Nat) {d : Jvm.Cond} (q : ws[i]? = some d) : d.before a0 Z = true := hw d (List.mem_of_getElem? q)
section Kit
variable {p : Program} {l : Launch} {e : Env} {R : Room} {s : State} {m : MethodId} {args : Array Value} {below : List Frame} {meth : Method} {c : Code} {Z : State} {B : ByteArray} {own nm : String} {ml : Nat} {ret : Option FieldType} {n0 : Nat} {T : State} {h : Heap} {k n : Nat} {Q : Option Value → Heap → Prop} {kC kS : Nat}
theorem Go.st {t t' : State} (r : Go p e below s n0 Q kC kS t') (q : ∀ u, Steps p.tables e below t' u → Steps p.tables e below t u) : Go p e below s n0 Q kC kS t := by
  obtain ⟨s₂, o, h1, h2⟩ := r; exact ⟨s₂, o, q _ h1, h2⟩
theorem St.more {k' n' : Nat} (X : St p l e R s m args below meth c Z B own nm ml ret n0 T h k n) (hk : k ≤ k') (hn : n ≤ n') : St p l e R s m args below meth c Z B own nm ml ret n0 T h k' n' := by
  obtain ⟨q, locs, X, r⟩ := X; exact ⟨q, locs, X.more hk hn, r⟩
theorem St.z (X : St p l e R s m args below meth c Z B own nm ml ret n0 T h k n) : Z.Warmed39 s.vm := X.1.2.2.1

theorem iloadN (X : St p l e R s m args below meth c Z B own nm ml ret n0 T h k n) {pc : Nat} {Ls : Array Slot} {st : List Value} {j : Fin 4} {v : Int32} (hd : decode B pc = .ok (.iload_n j, 1)) (hl : Ls[j.val]? = some (.val (.int v)))
    (r : Go p e below s n0 Q kC kS (T.setTop (mkF m (pc + 1) Ls (.int v :: st)))) : Go p e below s n0 Q kC kS (T.setTop (mkF m pc Ls (st))) := by
  obtain ⟨⟨hx, rfl, -⟩, locs, X, -⟩ := X
  exact r.st fun u kk => XS.iloadN X.here hx rfl hd hl kk
theorem iload (X : St p l e R s m args below meth c Z B own nm ml ret n0 T h k n) {pc : Nat} {Ls : Array Slot} {st : List Value} {j : Nat} {v : Int32} (hd : decode B pc = .ok (.iload j, 2)) (hl : Ls[j]? = some (.val (.int v)))
    (r : Go p e below s n0 Q kC kS (T.setTop (mkF m (pc + 2) Ls (.int v :: st)))) : Go p e below s n0 Q kC kS (T.setTop (mkF m pc Ls (st))) := by
  obtain ⟨⟨hx, rfl, -⟩, locs, X, -⟩ := X
  exact r.st fun u kk => XS.iload X.here hx rfl hd hl kk
theorem istoreN (X : St p l e R s m args below meth c Z B own nm ml ret n0 T h k n) {pc : Nat} {Ls : Array Slot} {st : List Value} {j : Fin 4} {v : Int32} {l' : Array Slot} (hd : decode B pc = .ok (.istore_n j, 1)) (hl : storeLocals Ls j.val (.int v) = some l')
    (r : Go p e below s n0 Q kC kS (T.setTop (mkF m (pc + 1) l' (st)))) : Go p e below s n0 Q kC kS (T.setTop (mkF m pc Ls (.int v :: st))) := by
  obtain ⟨⟨hx, rfl, -⟩, locs, X, -⟩ := X
  exact r.st fun u kk => XS.istoreN X.here hx rfl hd rfl hl kk
theorem istore (X : St p l e R s m args below meth c Z B own nm ml ret n0 T h k n) {pc : Nat} {Ls : Array Slot} {st : List Value} {j : Nat} {v : Int32} {l' : Array Slot} (hd : decode B pc = .ok (.istore j, 2)) (hl : storeLocals Ls j (.int v) = some l')
    (r : Go p e below s n0 Q kC kS (T.setTop (mkF m (pc + 2) l' (st)))) : Go p e below s n0 Q kC kS (T.setTop (mkF m pc Ls (.int v :: st))) := by
  obtain ⟨⟨hx, rfl, -⟩, locs, X, -⟩ := X
  exact r.st fun u kk => XS.istore X.here hx rfl hd rfl hl kk
theorem lloadN (X : St p l e R s m args below meth c Z B own nm ml ret n0 T h k n) {pc : Nat} {Ls : Array Slot} {st : List Value} {j : Fin 4} {v : Int64} (hd : decode B pc = .ok (.lload_n j, 1)) (hl : Ls[j.val]? = some (.val (.long v)))
    (r : Go p e below s n0 Q kC kS (T.setTop (mkF m (pc + 1) Ls (.long v :: st)))) : Go p e below s n0 Q kC kS (T.setTop (mkF m pc Ls (st))) := by
  obtain ⟨⟨hx, rfl, -⟩, locs, X, -⟩ := X
  exact r.st fun u kk => XS.lloadN X.here hx rfl hd hl kk
theorem lload (X : St p l e R s m args below meth c Z B own nm ml ret n0 T h k n) {pc : Nat} {Ls : Array Slot} {st : List Value} {j : Nat} {v : Int64} (hd : decode B pc = .ok (.lload j, 2)) (hl : Ls[j]? = some (.val (.long v)))
    (r : Go p e below s n0 Q kC kS (T.setTop (mkF m (pc + 2) Ls (.long v :: st)))) : Go p e below s n0 Q kC kS (T.setTop (mkF m pc Ls (st))) := by
  obtain ⟨⟨hx, rfl, -⟩, locs, X, -⟩ := X
  exact r.st fun u kk => XS.lload X.here hx rfl hd hl kk
theorem lstoreN (X : St p l e R s m args below meth c Z B own nm ml ret n0 T h k n) {pc : Nat} {Ls : Array Slot} {st : List Value} {j : Fin 4} {v : Int64} {l' : Array Slot} (hd : decode B pc = .ok (.lstore_n j, 1)) (hl : storeLocals Ls j.val (.long v) = some l')
    (r : Go p e below s n0 Q kC kS (T.setTop (mkF m (pc + 1) l' (st)))) : Go p e below s n0 Q kC kS (T.setTop (mkF m pc Ls (.long v :: st))) := by
  obtain ⟨⟨hx, rfl, -⟩, locs, X, -⟩ := X
  exact r.st fun u kk => XS.lstoreN X.here hx rfl hd rfl hl kk
theorem lstore (X : St p l e R s m args below meth c Z B own nm ml ret n0 T h k n) {pc : Nat} {Ls : Array Slot} {st : List Value} {j : Nat} {v : Int64} {l' : Array Slot} (hd : decode B pc = .ok (.lstore j, 2)) (hl : storeLocals Ls j (.long v) = some l')
    (r : Go p e below s n0 Q kC kS (T.setTop (mkF m (pc + 2) l' (st)))) : Go p e below s n0 Q kC kS (T.setTop (mkF m pc Ls (.long v :: st))) := by
  obtain ⟨⟨hx, rfl, -⟩, locs, X, -⟩ := X
  exact r.st fun u kk => XS.lstore X.here hx rfl hd rfl hl kk
theorem dloadN (X : St p l e R s m args below meth c Z B own nm ml ret n0 T h k n) {pc : Nat} {Ls : Array Slot} {st : List Value} {j : Fin 4} {v : UInt64} (hd : decode B pc = .ok (.dload_n j, 1)) (hl : Ls[j.val]? = some (.val (.double v)))
    (r : Go p e below s n0 Q kC kS (T.setTop (mkF m (pc + 1) Ls (.double v :: st)))) : Go p e below s n0 Q kC kS (T.setTop (mkF m pc Ls (st))) := by
  obtain ⟨⟨hx, rfl, -⟩, locs, X, -⟩ := X
  exact r.st fun u kk => XS.dloadN X.here hx rfl hd hl kk
theorem dload (X : St p l e R s m args below meth c Z B own nm ml ret n0 T h k n) {pc : Nat} {Ls : Array Slot} {st : List Value} {j : Nat} {v : UInt64} (hd : decode B pc = .ok (.dload j, 2)) (hl : Ls[j]? = some (.val (.double v)))
    (r : Go p e below s n0 Q kC kS (T.setTop (mkF m (pc + 2) Ls (.double v :: st)))) : Go p e below s n0 Q kC kS (T.setTop (mkF m pc Ls (st))) := by
  obtain ⟨⟨hx, rfl, -⟩, locs, X, -⟩ := X
  exact r.st fun u kk => XS.dload X.here hx rfl hd hl kk
theorem dstoreN (X : St p l e R s m args below meth c Z B own nm ml ret n0 T h k n) {pc : Nat} {Ls : Array Slot} {st : List Value} {j : Fin 4} {v : UInt64} {l' : Array Slot} (hd : decode B pc = .ok (.dstore_n j, 1)) (hl : storeLocals Ls j.val (.double v) = some l')
    (r : Go p e below s n0 Q kC kS (T.setTop (mkF m (pc + 1) l' (st)))) : Go p e below s n0 Q kC kS (T.setTop (mkF m pc Ls (.double v :: st))) := by
  obtain ⟨⟨hx, rfl, -⟩, locs, X, -⟩ := X
  exact r.st fun u kk => XS.dstoreN X.here hx rfl hd rfl hl kk
theorem dstore (X : St p l e R s m args below meth c Z B own nm ml ret n0 T h k n) {pc : Nat} {Ls : Array Slot} {st : List Value} {j : Nat} {v : UInt64} {l' : Array Slot} (hd : decode B pc = .ok (.dstore j, 2)) (hl : storeLocals Ls j (.double v) = some l')
    (r : Go p e below s n0 Q kC kS (T.setTop (mkF m (pc + 2) l' (st)))) : Go p e below s n0 Q kC kS (T.setTop (mkF m pc Ls (.double v :: st))) := by
  obtain ⟨⟨hx, rfl, -⟩, locs, X, -⟩ := X
  exact r.st fun u kk => XS.dstore X.here hx rfl hd rfl hl kk
theorem aloadN (X : St p l e R s m args below meth c Z B own nm ml ret n0 T h k n) {pc : Nat} {Ls : Array Slot} {st : List Value} {j : Fin 4} {v : Value} (hd : decode B pc = .ok (.aload_n j, 1)) (hl : Ls[j.val]? = some (.val v)) (hv : v.isRef = true)
    (r : Go p e below s n0 Q kC kS (T.setTop (mkF m (pc + 1) Ls (v :: st)))) : Go p e below s n0 Q kC kS (T.setTop (mkF m pc Ls (st))) := by
  obtain ⟨⟨hx, rfl, -⟩, locs, X, -⟩ := X
  exact r.st fun u kk => XS.aloadN X.here hx rfl hd hl hv kk
theorem aload (X : St p l e R s m args below meth c Z B own nm ml ret n0 T h k n) {pc : Nat} {Ls : Array Slot} {st : List Value} {j : Nat} {v : Value} (hd : decode B pc = .ok (.aload j, 2)) (hl : Ls[j]? = some (.val v)) (hv : v.isRef = true)
    (r : Go p e below s n0 Q kC kS (T.setTop (mkF m (pc + 2) Ls (v :: st)))) : Go p e below s n0 Q kC kS (T.setTop (mkF m pc Ls (st))) := by
  obtain ⟨⟨hx, rfl, -⟩, locs, X, -⟩ := X
  exact r.st fun u kk => XS.aload X.here hx rfl hd hl hv kk
theorem astoreN (X : St p l e R s m args below meth c Z B own nm ml ret n0 T h k n) {pc : Nat} {Ls : Array Slot} {st : List Value} {j : Fin 4} {v : Value} {l' : Array Slot} (hd : decode B pc = .ok (.astore_n j, 1)) (hv : v.isRef = true) (hl : storeLocals Ls j.val v = some l')
    (r : Go p e below s n0 Q kC kS (T.setTop (mkF m (pc + 1) l' (st)))) : Go p e below s n0 Q kC kS (T.setTop (mkF m pc Ls (v :: st))) := by
  obtain ⟨⟨hx, rfl, -⟩, locs, X, -⟩ := X
  exact r.st fun u kk => XS.astoreN X.here hx rfl hd rfl hv hl kk
theorem astore (X : St p l e R s m args below meth c Z B own nm ml ret n0 T h k n) {pc : Nat} {Ls : Array Slot} {st : List Value} {j : Nat} {v : Value} {l' : Array Slot} (hd : decode B pc = .ok (.astore j, 2)) (hv : v.isRef = true) (hl : storeLocals Ls j v = some l')
    (r : Go p e below s n0 Q kC kS (T.setTop (mkF m (pc + 2) l' (st)))) : Go p e below s n0 Q kC kS (T.setTop (mkF m pc Ls (v :: st))) := by
  obtain ⟨⟨hx, rfl, -⟩, locs, X, -⟩ := X
  exact r.st fun u kk => XS.astore X.here hx rfl hd rfl hv hl kk
theorem iconst (X : St p l e R s m args below meth c Z B own nm ml ret n0 T h k n) {pc : Nat} {Ls : Array Slot} {st : List Value} {i : Int} (v : Int32) (hd : decode B pc = .ok (.iconst i, 1)) (hv : Int32.ofInt i = v)
    (r : Go p e below s n0 Q kC kS (T.setTop (mkF m (pc + 1) Ls (.int v :: st)))) : Go p e below s n0 Q kC kS (T.setTop (mkF m pc Ls (st))) := by
  obtain ⟨⟨hx, rfl, -⟩, locs, X, -⟩ := X
  subst hv
  exact r.st fun u kk => XS.iconst X.here hx rfl hd kk
theorem bipush (X : St p l e R s m args below meth c Z B own nm ml ret n0 T h k n) {pc : Nat} {Ls : Array Slot} {st : List Value} {i : Int} (v : Int32) (hd : decode B pc = .ok (.bipush i, 2)) (hv : (Int8.ofInt i).toInt32 = v)
    (r : Go p e below s n0 Q kC kS (T.setTop (mkF m (pc + 2) Ls (.int v :: st)))) : Go p e below s n0 Q kC kS (T.setTop (mkF m pc Ls (st))) := by
  obtain ⟨⟨hx, rfl, -⟩, locs, X, -⟩ := X
  subst hv
  exact r.st fun u kk => XS.bipush X.here hx rfl hd kk
theorem sipush (X : St p l e R s m args below meth c Z B own nm ml ret n0 T h k n) {pc : Nat} {Ls : Array Slot} {st : List Value} {i : Int} (v : Int32) (hd : decode B pc = .ok (.sipush i, 3)) (hv : (Int16.ofInt i).toInt32 = v)
    (r : Go p e below s n0 Q kC kS (T.setTop (mkF m (pc + 3) Ls (.int v :: st)))) : Go p e below s n0 Q kC kS (T.setTop (mkF m pc Ls (st))) := by
  obtain ⟨⟨hx, rfl, -⟩, locs, X, -⟩ := X
  subst hv
  exact r.st fun u kk => XS.sipush X.here hx rfl hd kk
theorem lconst (X : St p l e R s m args below meth c Z B own nm ml ret n0 T h k n) {pc : Nat} {Ls : Array Slot} {st : List Value} {i : Fin 2} (v : Int64) (hd : decode B pc = .ok (.lconst i, 1)) (hv : Int64.ofNat i = v)
    (r : Go p e below s n0 Q kC kS (T.setTop (mkF m (pc + 1) Ls (.long v :: st)))) : Go p e below s n0 Q kC kS (T.setTop (mkF m pc Ls (st))) := by
  obtain ⟨⟨hx, rfl, -⟩, locs, X, -⟩ := X
  subst hv
  exact r.st fun u kk => XS.lconst X.here hx rfl hd kk
theorem dconst0 (X : St p l e R s m args below meth c Z B own nm ml ret n0 T h k n) {pc : Nat} {Ls : Array Slot} {st : List Value}  (hd : decode B pc = .ok (.dconst 0, 1)) 
    (r : Go p e below s n0 Q kC kS (T.setTop (mkF m (pc + 1) Ls (.double 0 :: st)))) : Go p e below s n0 Q kC kS (T.setTop (mkF m pc Ls (st))) := by
  obtain ⟨⟨hx, rfl, -⟩, locs, X, -⟩ := X
  exact r.st fun u kk => XS.dconst0 X.here hx rfl hd rfl kk
theorem dconst1 (X : St p l e R s m args below meth c Z B own nm ml ret n0 T h k n) {pc : Nat} {Ls : Array Slot} {st : List Value}  (hd : decode B pc = .ok (.dconst 1, 1)) 
    (r : Go p e below s n0 Q kC kS (T.setTop (mkF m (pc + 1) Ls (.double 4607182418800017408 :: st)))) : Go p e below s n0 Q kC kS (T.setTop (mkF m pc Ls (st))) := by
  obtain ⟨⟨hx, rfl, -⟩, locs, X, -⟩ := X
  exact r.st fun u kk => XS.dconst1 X.here hx rfl hd rfl kk
theorem aconstNull (X : St p l e R s m args below meth c Z B own nm ml ret n0 T h k n) {pc : Nat} {Ls : Array Slot} {st : List Value}  (hd : decode B pc = .ok (.aconst_null, 1)) 
    (r : Go p e below s n0 Q kC kS (T.setTop (mkF m (pc + 1) Ls (.null :: st)))) : Go p e below s n0 Q kC kS (T.setTop (mkF m pc Ls (st))) := by
  obtain ⟨⟨hx, rfl, -⟩, locs, X, -⟩ := X
  exact r.st fun u kk => XS.aconstNull X.here hx rfl hd kk
theorem iadd (X : St p l e R s m args below meth c Z B own nm ml ret n0 T h k n) {pc : Nat} {Ls : Array Slot} {st : List Value} {x y : Int32} (hd : decode B pc = .ok (.iadd, 1)) 
    (r : Go p e below s n0 Q kC kS (T.setTop (mkF m (pc + 1) Ls (.int (x + y) :: st)))) : Go p e below s n0 Q kC kS (T.setTop (mkF m pc Ls (.int y :: .int x :: st))) := by
  obtain ⟨⟨hx, rfl, -⟩, locs, X, -⟩ := X
  exact r.st fun u kk => XS.iadd X.here hx rfl hd rfl kk
theorem isub (X : St p l e R s m args below meth c Z B own nm ml ret n0 T h k n) {pc : Nat} {Ls : Array Slot} {st : List Value} {x y : Int32} (hd : decode B pc = .ok (.isub, 1)) 
    (r : Go p e below s n0 Q kC kS (T.setTop (mkF m (pc + 1) Ls (.int (x - y) :: st)))) : Go p e below s n0 Q kC kS (T.setTop (mkF m pc Ls (.int y :: .int x :: st))) := by
  obtain ⟨⟨hx, rfl, -⟩, locs, X, -⟩ := X
  exact r.st fun u kk => XS.isub X.here hx rfl hd rfl kk
theorem imul (X : St p l e R s m args below meth c Z B own nm ml ret n0 T h k n) {pc : Nat} {Ls : Array Slot} {st : List Value} {x y : Int32} (hd : decode B pc = .ok (.imul, 1)) 
    (r : Go p e below s n0 Q kC kS (T.setTop (mkF m (pc + 1) Ls (.int (x * y) :: st)))) : Go p e below s n0 Q kC kS (T.setTop (mkF m pc Ls (.int y :: .int x :: st))) := by
  obtain ⟨⟨hx, rfl, -⟩, locs, X, -⟩ := X
  exact r.st fun u kk => XS.imul X.here hx rfl hd rfl kk
theorem iand (X : St p l e R s m args below meth c Z B own nm ml ret n0 T h k n) {pc : Nat} {Ls : Array Slot} {st : List Value} {x y : Int32} (hd : decode B pc = .ok (.iand, 1)) 
    (r : Go p e below s n0 Q kC kS (T.setTop (mkF m (pc + 1) Ls (.int (x &&& y) :: st)))) : Go p e below s n0 Q kC kS (T.setTop (mkF m pc Ls (.int y :: .int x :: st))) := by
  obtain ⟨⟨hx, rfl, -⟩, locs, X, -⟩ := X
  exact r.st fun u kk => XS.iand X.here hx rfl hd rfl kk
theorem ior (X : St p l e R s m args below meth c Z B own nm ml ret n0 T h k n) {pc : Nat} {Ls : Array Slot} {st : List Value} {x y : Int32} (hd : decode B pc = .ok (.ior, 1)) 
    (r : Go p e below s n0 Q kC kS (T.setTop (mkF m (pc + 1) Ls (.int (x ||| y) :: st)))) : Go p e below s n0 Q kC kS (T.setTop (mkF m pc Ls (.int y :: .int x :: st))) := by
  obtain ⟨⟨hx, rfl, -⟩, locs, X, -⟩ := X
  exact r.st fun u kk => Jvm.Free.XT.ior X.here hx rfl hd rfl kk
theorem ixor (X : St p l e R s m args below meth c Z B own nm ml ret n0 T h k n) {pc : Nat} {Ls : Array Slot} {st : List Value} {x y : Int32} (hd : decode B pc = .ok (.ixor, 1)) 
    (r : Go p e below s n0 Q kC kS (T.setTop (mkF m (pc + 1) Ls (.int (x ^^^ y) :: st)))) : Go p e below s n0 Q kC kS (T.setTop (mkF m pc Ls (.int y :: .int x :: st))) := by
  obtain ⟨⟨hx, rfl, -⟩, locs, X, -⟩ := X
  exact r.st fun u kk => Jvm.Free.XT.ixor X.here hx rfl hd rfl kk
theorem ishl (X : St p l e R s m args below meth c Z B own nm ml ret n0 T h k n) {pc : Nat} {Ls : Array Slot} {st : List Value} {x y : Int32} (hd : decode B pc = .ok (.ishl, 1)) 
    (r : Go p e below s n0 Q kC kS (T.setTop (mkF m (pc + 1) Ls (.int (x <<< (y &&& 31)) :: st)))) : Go p e below s n0 Q kC kS (T.setTop (mkF m pc Ls (.int y :: .int x :: st))) := by
  obtain ⟨⟨hx, rfl, -⟩, locs, X, -⟩ := X
  exact r.st fun u kk => Jvm.Free.XT.ishl X.here hx rfl hd rfl kk
theorem ishr (X : St p l e R s m args below meth c Z B own nm ml ret n0 T h k n) {pc : Nat} {Ls : Array Slot} {st : List Value} {x y : Int32} (hd : decode B pc = .ok (.ishr, 1)) 
    (r : Go p e below s n0 Q kC kS (T.setTop (mkF m (pc + 1) Ls (.int (x >>> (y &&& 31)) :: st)))) : Go p e below s n0 Q kC kS (T.setTop (mkF m pc Ls (.int y :: .int x :: st))) := by
  obtain ⟨⟨hx, rfl, -⟩, locs, X, -⟩ := X
  exact r.st fun u kk => Jvm.Free.XT.ishr X.here hx rfl hd rfl kk
theorem iushr (X : St p l e R s m args below meth c Z B own nm ml ret n0 T h k n) {pc : Nat} {Ls : Array Slot} {st : List Value} {x y : Int32} (hd : decode B pc = .ok (.iushr, 1)) 
    (r : Go p e below s n0 Q kC kS (T.setTop (mkF m (pc + 1) Ls (.int (Jvm.Free.XT.ushr x y) :: st)))) : Go p e below s n0 Q kC kS (T.setTop (mkF m pc Ls (.int y :: .int x :: st))) := by
  obtain ⟨⟨hx, rfl, -⟩, locs, X, -⟩ := X
  exact r.st fun u kk => Jvm.Free.XT.iushr X.here hx rfl hd rfl kk
theorem irem (X : St p l e R s m args below meth c Z B own nm ml ret n0 T h k n) {pc : Nat} {Ls : Array Slot} {st : List Value} {x y : Int32} (hd : decode B pc = .ok (.irem, 1)) (hy : y ≠ 0)
    (r : Go p e below s n0 Q kC kS (T.setTop (mkF m (pc + 1) Ls (.int (x % y) :: st)))) : Go p e below s n0 Q kC kS (T.setTop (mkF m pc Ls (.int y :: .int x :: st))) := by
  obtain ⟨⟨hx, rfl, -⟩, locs, X, -⟩ := X
  exact r.st fun u kk => iremM X hx rfl hd rfl hy kk
theorem ladd (X : St p l e R s m args below meth c Z B own nm ml ret n0 T h k n) {pc : Nat} {Ls : Array Slot} {st : List Value} {x y : Int64} (hd : decode B pc = .ok (.ladd, 1)) 
    (r : Go p e below s n0 Q kC kS (T.setTop (mkF m (pc + 1) Ls (.long (x + y) :: st)))) : Go p e below s n0 Q kC kS (T.setTop (mkF m pc Ls (.long y :: .long x :: st))) := by
  obtain ⟨⟨hx, rfl, -⟩, locs, X, -⟩ := X
  exact r.st fun u kk => Jvm.Free.XT.ladd X.here hx rfl hd rfl kk
theorem lsub (X : St p l e R s m args below meth c Z B own nm ml ret n0 T h k n) {pc : Nat} {Ls : Array Slot} {st : List Value} {x y : Int64} (hd : decode B pc = .ok (.lsub, 1)) 
    (r : Go p e below s n0 Q kC kS (T.setTop (mkF m (pc + 1) Ls (.long (x - y) :: st)))) : Go p e below s n0 Q kC kS (T.setTop (mkF m pc Ls (.long y :: .long x :: st))) := by
  obtain ⟨⟨hx, rfl, -⟩, locs, X, -⟩ := X
  exact r.st fun u kk => Jvm.Free.XT.lsub X.here hx rfl hd rfl kk
theorem lmul (X : St p l e R s m args below meth c Z B own nm ml ret n0 T h k n) {pc : Nat} {Ls : Array Slot} {st : List Value} {x y : Int64} (hd : decode B pc = .ok (.lmul, 1)) 
    (r : Go p e below s n0 Q kC kS (T.setTop (mkF m (pc + 1) Ls (.long (x * y) :: st)))) : Go p e below s n0 Q kC kS (T.setTop (mkF m pc Ls (.long y :: .long x :: st))) := by
  obtain ⟨⟨hx, rfl, -⟩, locs, X, -⟩ := X
  exact r.st fun u kk => Jvm.Free.XT.lmul X.here hx rfl hd rfl kk
theorem land (X : St p l e R s m args below meth c Z B own nm ml ret n0 T h k n) {pc : Nat} {Ls : Array Slot} {st : List Value} {x y : Int64} (hd : decode B pc = .ok (.land, 1)) 
    (r : Go p e below s n0 Q kC kS (T.setTop (mkF m (pc + 1) Ls (.long (x &&& y) :: st)))) : Go p e below s n0 Q kC kS (T.setTop (mkF m pc Ls (.long y :: .long x :: st))) := by
  obtain ⟨⟨hx, rfl, -⟩, locs, X, -⟩ := X
  exact r.st fun u kk => Jvm.Free.XT.land X.here hx rfl hd rfl kk
theorem lrem (X : St p l e R s m args below meth c Z B own nm ml ret n0 T h k n) {pc : Nat} {Ls : Array Slot} {st : List Value} {x y : Int64} (hd : decode B pc = .ok (.lrem, 1)) (hy : y ≠ 0)
    (r : Go p e below s n0 Q kC kS (T.setTop (mkF m (pc + 1) Ls (.long (x - (x / y) * y) :: st)))) : Go p e below s n0 Q kC kS (T.setTop (mkF m pc Ls (.long y :: .long x :: st))) := by
  obtain ⟨⟨hx, rfl, -⟩, locs, X, -⟩ := X
  exact r.st fun u kk => Jvm.Free.XT.lrem X.here hx rfl hd rfl hy kk
theorem lneg (X : St p l e R s m args below meth c Z B own nm ml ret n0 T h k n) {pc : Nat} {Ls : Array Slot} {st : List Value} {x : Int64} (hd : decode B pc = .ok (.lneg, 1)) 
    (r : Go p e below s n0 Q kC kS (T.setTop (mkF m (pc + 1) Ls (.long (-x) :: st)))) : Go p e below s n0 Q kC kS (T.setTop (mkF m pc Ls (.long x :: st))) := by
  obtain ⟨⟨hx, rfl, -⟩, locs, X, -⟩ := X
  exact r.st fun u kk => Jvm.Free.XT.lneg X.here hx rfl hd rfl kk
theorem i2l (X : St p l e R s m args below meth c Z B own nm ml ret n0 T h k n) {pc : Nat} {Ls : Array Slot} {st : List Value} {x : Int32} (hd : decode B pc = .ok (.i2l, 1)) 
    (r : Go p e below s n0 Q kC kS (T.setTop (mkF m (pc + 1) Ls (.long (x.toInt64) :: st)))) : Go p e below s n0 Q kC kS (T.setTop (mkF m pc Ls (.int x :: st))) := by
  obtain ⟨⟨hx, rfl, -⟩, locs, X, -⟩ := X
  exact r.st fun u kk => Jvm.Free.XT.i2l X.here hx rfl hd rfl kk
theorem l2i (X : St p l e R s m args below meth c Z B own nm ml ret n0 T h k n) {pc : Nat} {Ls : Array Slot} {st : List Value} {x : Int64} (hd : decode B pc = .ok (.l2i, 1)) 
    (r : Go p e below s n0 Q kC kS (T.setTop (mkF m (pc + 1) Ls (.int (x.toInt32) :: st)))) : Go p e below s n0 Q kC kS (T.setTop (mkF m pc Ls (.long x :: st))) := by
  obtain ⟨⟨hx, rfl, -⟩, locs, X, -⟩ := X
  exact r.st fun u kk => Jvm.Free.XT.l2i X.here hx rfl hd rfl kk
theorem i2s (X : St p l e R s m args below meth c Z B own nm ml ret n0 T h k n) {pc : Nat} {Ls : Array Slot} {st : List Value} {x : Int32} (hd : decode B pc = .ok (.i2s, 1)) 
    (r : Go p e below s n0 Q kC kS (T.setTop (mkF m (pc + 1) Ls (.int (x.toInt16.toInt32) :: st)))) : Go p e below s n0 Q kC kS (T.setTop (mkF m pc Ls (.int x :: st))) := by
  obtain ⟨⟨hx, rfl, -⟩, locs, X, -⟩ := X
  exact r.st fun u kk => Jvm.Free.XT.i2s X.here hx rfl hd rfl kk
theorem i2c (X : St p l e R s m args below meth c Z B own nm ml ret n0 T h k n) {pc : Nat} {Ls : Array Slot} {st : List Value} {x : Int32} (hd : decode B pc = .ok (.i2c, 1)) 
    (r : Go p e below s n0 Q kC kS (T.setTop (mkF m (pc + 1) Ls (.int (x.toUInt32.toUInt16.toUInt32.toInt32) :: st)))) : Go p e below s n0 Q kC kS (T.setTop (mkF m pc Ls (.int x :: st))) := by
  obtain ⟨⟨hx, rfl, -⟩, locs, X, -⟩ := X
  exact r.st fun u kk => Jvm.Free.XT.i2c X.here hx rfl hd rfl kk
theorem lshr (X : St p l e R s m args below meth c Z B own nm ml ret n0 T h k n) {pc : Nat} {Ls : Array Slot} {st : List Value} {x : Int64} {y : Int32} (hd : decode B pc = .ok (.lshr, 1)) 
    (r : Go p e below s n0 Q kC kS (T.setTop (mkF m (pc + 1) Ls (.long (x >>> (y.toInt64 &&& 63)) :: st)))) : Go p e below s n0 Q kC kS (T.setTop (mkF m pc Ls (.int y :: .long x :: st))) := by
  obtain ⟨⟨hx, rfl, -⟩, locs, X, -⟩ := X
  exact r.st fun u kk => Jvm.Free.XT.lshr X.here hx rfl hd rfl kk
theorem lshl (X : St p l e R s m args below meth c Z B own nm ml ret n0 T h k n) {pc : Nat} {Ls : Array Slot} {st : List Value} {x : Int64} {y : Int32} (hd : decode B pc = .ok (.lshl, 1)) 
    (r : Go p e below s n0 Q kC kS (T.setTop (mkF m (pc + 1) Ls (.long (x <<< (y.toInt64 &&& 63)) :: st)))) : Go p e below s n0 Q kC kS (T.setTop (mkF m pc Ls (.int y :: .long x :: st))) := by
  obtain ⟨⟨hx, rfl, -⟩, locs, X, -⟩ := X
  exact r.st fun u kk => Jvm.Free.XT.lshl X.here hx rfl hd rfl kk
theorem i2d (X : St p l e R s m args below meth c Z B own nm ml ret n0 T h k n) {pc : Nat} {Ls : Array Slot} {st : List Value} {x : Int32} {v : UInt64} (hd : decode B pc = .ok (.i2d, 1)) (hv : FP.i2d x = v)
    (r : Go p e below s n0 Q kC kS (T.setTop (mkF m (pc + 1) Ls (.double v :: st)))) : Go p e below s n0 Q kC kS (T.setTop (mkF m pc Ls (.int x :: st))) := by
  obtain ⟨⟨hx, rfl, -⟩, locs, X, -⟩ := X
  exact r.st fun u kk => XS.i2dS X.here hx rfl hd rfl hv kk
theorem l2d (X : St p l e R s m args below meth c Z B own nm ml ret n0 T h k n) {pc : Nat} {Ls : Array Slot} {st : List Value} {x : Int64} {v : UInt64} (hd : decode B pc = .ok (.l2d, 1)) (hv : FP.l2d x = v)
    (r : Go p e below s n0 Q kC kS (T.setTop (mkF m (pc + 1) Ls (.double v :: st)))) : Go p e below s n0 Q kC kS (T.setTop (mkF m pc Ls (.long x :: st))) := by
  obtain ⟨⟨hx, rfl, -⟩, locs, X, -⟩ := X
  exact r.st fun u kk => XS.l2dS X.here hx rfl hd rfl hv kk
theorem dneg (X : St p l e R s m args below meth c Z B own nm ml ret n0 T h k n) {pc : Nat} {Ls : Array Slot} {st : List Value} {x v : UInt64} (hd : decode B pc = .ok (.dneg, 1)) (hv : FP.dneg x = v)
    (r : Go p e below s n0 Q kC kS (T.setTop (mkF m (pc + 1) Ls (.double v :: st)))) : Go p e below s n0 Q kC kS (T.setTop (mkF m pc Ls (.double x :: st))) := by
  obtain ⟨⟨hx, rfl, -⟩, locs, X, -⟩ := X
  exact r.st fun u kk => XS.dnegS X.here hx rfl hd rfl hv kk
theorem dadd (X : St p l e R s m args below meth c Z B own nm ml ret n0 T h k n) {pc : Nat} {Ls : Array Slot} {st : List Value} {x y v : UInt64} (hd : decode B pc = .ok (.dadd, 1)) (hv : FP.dadd x y = v) (hn : NoNaN64 v)
    (r : Go p e below s n0 Q kC kS (T.setTop (mkF m (pc + 1) Ls (.double v :: st)))) : Go p e below s n0 Q kC kS (T.setTop (mkF m pc Ls (.double y :: .double x :: st))) := by
  obtain ⟨⟨hx, rfl, -⟩, locs, X, -⟩ := X
  exact r.st fun u kk => XS.daddS X.here hx rfl hd rfl (hv.symm ▸ hn) hv kk
theorem dsub (X : St p l e R s m args below meth c Z B own nm ml ret n0 T h k n) {pc : Nat} {Ls : Array Slot} {st : List Value} {x y v : UInt64} (hd : decode B pc = .ok (.dsub, 1)) (hv : FP.dsub x y = v) (hn : NoNaN64 v)
    (r : Go p e below s n0 Q kC kS (T.setTop (mkF m (pc + 1) Ls (.double v :: st)))) : Go p e below s n0 Q kC kS (T.setTop (mkF m pc Ls (.double y :: .double x :: st))) := by
  obtain ⟨⟨hx, rfl, -⟩, locs, X, -⟩ := X
  exact r.st fun u kk => XS.dsubS X.here hx rfl hd rfl (hv.symm ▸ hn) hv kk
theorem dmul (X : St p l e R s m args below meth c Z B own nm ml ret n0 T h k n) {pc : Nat} {Ls : Array Slot} {st : List Value} {x y v : UInt64} (hd : decode B pc = .ok (.dmul, 1)) (hv : FP.dmul x y = v) (hn : NoNaN64 v)
    (r : Go p e below s n0 Q kC kS (T.setTop (mkF m (pc + 1) Ls (.double v :: st)))) : Go p e below s n0 Q kC kS (T.setTop (mkF m pc Ls (.double y :: .double x :: st))) := by
  obtain ⟨⟨hx, rfl, -⟩, locs, X, -⟩ := X
  exact r.st fun u kk => XS.dmulS X.here hx rfl hd rfl (hv.symm ▸ hn) hv kk
theorem ddiv (X : St p l e R s m args below meth c Z B own nm ml ret n0 T h k n) {pc : Nat} {Ls : Array Slot} {st : List Value} {x y v : UInt64} (hd : decode B pc = .ok (.ddiv, 1)) (hv : FP.ddiv x y = v) (hn : NoNaN64 v)
    (r : Go p e below s n0 Q kC kS (T.setTop (mkF m (pc + 1) Ls (.double v :: st)))) : Go p e below s n0 Q kC kS (T.setTop (mkF m pc Ls (.double y :: .double x :: st))) := by
  obtain ⟨⟨hx, rfl, -⟩, locs, X, -⟩ := X
  exact r.st fun u kk => XS.ddivS X.here hx rfl hd rfl (hv.symm ▸ hn) hv kk
theorem dup (X : St p l e R s m args below meth c Z B own nm ml ret n0 T h k n) {pc : Nat} {Ls : Array Slot} {st : List Value} {x : Value} (hd : decode B pc = .ok (.dup, 1)) (hc : x.category = 1)
    (r : Go p e below s n0 Q kC kS (T.setTop (mkF m (pc + 1) Ls (x :: x :: st)))) : Go p e below s n0 Q kC kS (T.setTop (mkF m pc Ls (x :: st))) := by
  obtain ⟨⟨hx, rfl, -⟩, locs, X, -⟩ := X
  exact r.st fun u kk => XS.dup X.here hx rfl hd rfl hc kk
theorem pop (X : St p l e R s m args below meth c Z B own nm ml ret n0 T h k n) {pc : Nat} {Ls : Array Slot} {st : List Value} {x : Value} (hd : decode B pc = .ok (.pop, 1)) (hc : x.category = 1)
    (r : Go p e below s n0 Q kC kS (T.setTop (mkF m (pc + 1) Ls (st)))) : Go p e below s n0 Q kC kS (T.setTop (mkF m pc Ls (x :: st))) := by
  obtain ⟨⟨hx, rfl, -⟩, locs, X, -⟩ := X
  exact r.st fun u kk => Jvm.Free.XT.pop X.here hx rfl hd rfl hc kk
theorem iinc (X : St p l e R s m args below meth c Z B own nm ml ret n0 T h k n) {pc : Nat} {Ls : Array Slot} {st : List Value} {j : Nat} {cst : Int} {x : Int32} {l' : Array Slot} (hd : decode B pc = .ok (.iinc j cst, 3)) (hl : Ls[j]? = some (.val (.int x))) (hl' : storeLocals Ls j (.int (x + Int32.ofInt cst)) = some l')
    (r : Go p e below s n0 Q kC kS (T.setTop (mkF m (pc + 3) l' (st)))) : Go p e below s n0 Q kC kS (T.setTop (mkF m pc Ls (st))) := by
  obtain ⟨⟨hx, rfl, -⟩, locs, X, -⟩ := X
  exact r.st fun u kk => XS.iinc X.here hx rfl hd hl hl' kk
theorem goto_ (X : St p l e R s m args below meth c Z B own nm ml ret n0 T h k n) {pc pc' : Nat} {Ls : Array Slot} {st : List Value} {o : Int} (hd : decode B pc = .ok (.goto o, 3)) (hp : (decide (0 ≤ (pc : Int) + o) && decide (((pc : Int) + o).toNat = pc')) = true)
    (r : Go p e below s n0 Q kC kS (T.setTop (mkF m pc' Ls st))) : Go p e below s n0 Q kC kS (T.setTop (mkF m pc Ls st)) := by
  obtain ⟨⟨hx, rfl, -⟩, locs, X, -⟩ := X
  simp only [Bool.and_eq_true, decide_eq_true_eq] at hp
  exact r.st fun u kk => XS.goto X.here hx rfl rfl hd hp.1 hp.2 kk
/-- what a comparison asks, of whole numbers -/
def cmpI : ClassFile.Cond → Int → Int → Prop
  | .eq, a, b => a = b
  | .ne, a, b => ¬ (a = b)
  | .lt, a, b => a < b
  | .ge, a, b => b ≤ a
  | .gt, a, b => b < a
  | .le, a, b => a ≤ b
theorem holds_I (cd : ClassFile.Cond) (x y : Int32) : if_icmp.holds cd x y = true ↔ cmpI cd x.toInt y.toInt := by
  cases cd <;> simp [if_icmp.holds, cmpI, Int32.lt_iff_toInt_lt, Int32.le_iff_toInt_le, ← Int32.toInt_inj]
theorem holds_0 (cd : ClassFile.Cond) (x : Int32) : ifCond.holds cd x = true ↔ cmpI cd x.toInt 0 := by
  rw [if0]; exact holds_I cd x 0
theorem iff_ (X : St p l e R s m args below meth c Z B own nm ml ret n0 T h k n) {pc pc' : Nat} {Ls : Array Slot} {st : List Value} {cd : ClassFile.Cond} {o : Int} {x : Int32} (hd : decode B pc = .ok (.ifCond cd o, 3)) (hp : (decide (0 ≤ (pc : Int) + o) && decide (((pc : Int) + o).toNat = pc')) = true)
    (r1 : cmpI cd x.toInt 0 → Go p e below s n0 Q kC kS (T.setTop (mkF m pc' Ls st))) (r2 : ¬ cmpI cd x.toInt 0 → Go p e below s n0 Q kC kS (T.setTop (mkF m (pc + 3) Ls st))) : Go p e below s n0 Q kC kS (T.setTop (mkF m pc Ls (.int x :: st))) := by
  obtain ⟨⟨hx, rfl, -⟩, locs, X, -⟩ := X
  simp only [Bool.and_eq_true, decide_eq_true_eq] at hp
  by_cases q : ifCond.holds cd x = true
  · exact (r1 ((holds_0 cd x).mp q)).st fun u kk => XS.ifYes X.here hx rfl rfl hd rfl q hp.1 hp.2 kk
  · exact (r2 fun z => q ((holds_0 cd x).mpr z)).st fun u kk => XS.ifNo X.here hx rfl hd rfl (by simpa using q) kk
theorem icmp_ (X : St p l e R s m args below meth c Z B own nm ml ret n0 T h k n) {pc pc' : Nat} {Ls : Array Slot} {st : List Value} {cd : ClassFile.Cond} {o : Int} {x y : Int32} (hd : decode B pc = .ok (.if_icmp cd o, 3)) (hp : (decide (0 ≤ (pc : Int) + o) && decide (((pc : Int) + o).toNat = pc')) = true)
    (r1 : cmpI cd x.toInt y.toInt → Go p e below s n0 Q kC kS (T.setTop (mkF m pc' Ls st))) (r2 : ¬ cmpI cd x.toInt y.toInt → Go p e below s n0 Q kC kS (T.setTop (mkF m (pc + 3) Ls st))) : Go p e below s n0 Q kC kS (T.setTop (mkF m pc Ls (.int y :: .int x :: st))) := by
  obtain ⟨⟨hx, rfl, -⟩, locs, X, -⟩ := X
  simp only [Bool.and_eq_true, decide_eq_true_eq] at hp
  by_cases q : if_icmp.holds cd x y = true
  · exact (r1 ((holds_I cd x y).mp q)).st fun u kk => XS.icmpYes X.here hx rfl rfl hd rfl q hp.1 hp.2 kk
  · exact (r2 fun z => q ((holds_I cd x y).mpr z)).st fun u kk => XS.icmpNo X.here hx rfl hd rfl (by simpa using q) kk
/-- a boolean of the walk: 1 where P, else 0 -/
abbrev bo (P : Prop) [Decidable P] : Int32 := if P then 1 else 0
theorem bo_I (P : Prop) [Decidable P] : (bo P).toInt = if P then 1 else 0 := by unfold bo; split <;> rfl
theorem bo_t {P : Prop} [Decidable P] (q : P) : (1 : Int32) = bo P := (if_pos q).symm
theorem bo_f {P : Prop} [Decidable P] (q : ¬ P) : (0 : Int32) = bo P := (if_neg q).symm
theorem bo_c {P P' : Prop} [Decidable P] [Decidable P'] (q : P ↔ P') : bo P = bo P' := by unfold bo; by_cases z : P <;> simp [z, q.mp, q.mpr, ← q]
theorem iff_and {A P : Prop} (h : A) : P ↔ A ∧ P := ⟨fun q => ⟨h, q⟩, fun q => q.2⟩
theorem iff_or {A P : Prop} (h : ¬ A) : P ↔ A ∨ P := ⟨Or.inr, fun q => q.resolve_left h⟩
theorem iff_l {A P P' : Prop} (h : A) : P ↔ (A ∧ P) ∨ (¬ A ∧ P') := ⟨fun q => Or.inl ⟨h, q⟩, fun q => q.elim (fun z => z.2) (fun z => absurd h z.1)⟩
theorem iff_r {A P P' : Prop} (h : ¬ A) : P ↔ (A ∧ P') ∨ (¬ A ∧ P) := ⟨fun q => Or.inr ⟨h, q⟩, fun q => q.elim (fun z => absurd z.1 h) (fun z => z.2)⟩
theorem nar_bo (P : Prop) [Decidable P] : narrow .boolean (.int (bo P)) = .int (bo P) := by unfold bo; split <;> rfl
theorem fits_bo (P : Prop) [Decidable P] : fits .boolean (.int (bo P)) = true := by unfold bo; split <;> rfl
theorem nar_z {z : Int32} (q : z &&& 1 = z) : narrow .boolean (.int z) = .int z := by show Value.int (z &&& 1) = _; rw [q]
theorem fits_z {z : Int32} (q : z &&& 1 = z) : fits .boolean (.int z) = true := by rcases and_one z with w | w <;> rw [q] at w <;> subst w <;> rfl
theorem bo0 (P : Prop) [Decidable P] : (bo P).toInt = 0 ↔ ¬ P := by rw [bo_I]; by_cases q : P <;> simp [q]
theorem ifeqB (X : St p l e R s m args below meth c Z B own nm ml ret n0 T h k n) {pc pc' : Nat} {Ls : Array Slot} {st : List Value} {o : Int} {P : Prop} [Decidable P] (hd : decode B pc = .ok (.ifCond .eq o, 3)) (hp : (decide (0 ≤ (pc : Int) + o) && decide (((pc : Int) + o).toNat = pc')) = true)
    (r1 : ¬ P → Go p e below s n0 Q kC kS (T.setTop (mkF m pc' Ls st))) (r2 : P → Go p e below s n0 Q kC kS (T.setTop (mkF m (pc + 3) Ls st))) : Go p e below s n0 Q kC kS (T.setTop (mkF m pc Ls (.int (bo P) :: st))) := by
  refine iff_ X hd hp (fun q => r1 fun z => ?_) (fun q => r2 (Classical.byContradiction fun z => q ?_))
  · rw [cmpI, bo_I, if_pos z] at q; cases q
  · rw [cmpI, bo_I, if_neg z]
theorem ifneB (X : St p l e R s m args below meth c Z B own nm ml ret n0 T h k n) {pc pc' : Nat} {Ls : Array Slot} {st : List Value} {o : Int} {P : Prop} [Decidable P] (hd : decode B pc = .ok (.ifCond .ne o, 3)) (hp : (decide (0 ≤ (pc : Int) + o) && decide (((pc : Int) + o).toNat = pc')) = true)
    (r1 : P → Go p e below s n0 Q kC kS (T.setTop (mkF m pc' Ls st))) (r2 : ¬ P → Go p e below s n0 Q kC kS (T.setTop (mkF m (pc + 3) Ls st))) : Go p e below s n0 Q kC kS (T.setTop (mkF m pc Ls (.int (bo P) :: st))) := by
  refine iff_ X hd hp (fun q => r1 (Classical.byContradiction fun z => q ?_)) (fun q => r2 fun z => q ?_)
  · rw [bo_I, if_neg z]
  · rw [cmpI, bo_I, if_pos z]; decide
theorem bo_eq (P P' : Prop) [Decidable P] [Decidable P'] : (bo P).toInt = (bo P').toInt ↔ (P ↔ P') := by
  rw [bo_I, bo_I]; by_cases a : P <;> by_cases b : P' <;> simp [a, b]
theorem icmpneB (X : St p l e R s m args below meth c Z B own nm ml ret n0 T h k n) {pc pc' : Nat} {Ls : Array Slot} {st : List Value} {o : Int} {P P' : Prop} [Decidable P] [Decidable P'] (hd : decode B pc = .ok (.if_icmp .ne o, 3)) (hp : (decide (0 ≤ (pc : Int) + o) && decide (((pc : Int) + o).toNat = pc')) = true)
    (r1 : ¬ (P ↔ P') → Go p e below s n0 Q kC kS (T.setTop (mkF m pc' Ls st))) (r2 : (P ↔ P') → Go p e below s n0 Q kC kS (T.setTop (mkF m (pc + 3) Ls st))) : Go p e below s n0 Q kC kS (T.setTop (mkF m pc Ls (.int (bo P') :: .int (bo P) :: st))) := by
  refine icmp_ X hd hp (fun q => r1 fun z => q ((bo_eq P P').mpr z)) (fun q => r2 (Classical.byContradiction fun z => q fun w => z ((bo_eq P P').mp w)))
theorem icmpeqB (X : St p l e R s m args below meth c Z B own nm ml ret n0 T h k n) {pc pc' : Nat} {Ls : Array Slot} {st : List Value} {o : Int} {P P' : Prop} [Decidable P] [Decidable P'] (hd : decode B pc = .ok (.if_icmp .eq o, 3)) (hp : (decide (0 ≤ (pc : Int) + o) && decide (((pc : Int) + o).toNat = pc')) = true)
    (r1 : (P ↔ P') → Go p e below s n0 Q kC kS (T.setTop (mkF m pc' Ls st))) (r2 : ¬ (P ↔ P') → Go p e below s n0 Q kC kS (T.setTop (mkF m (pc + 3) Ls st))) : Go p e below s n0 Q kC kS (T.setTop (mkF m pc Ls (.int (bo P') :: .int (bo P) :: st))) := by
  refine icmp_ X hd hp (fun q => r1 ((bo_eq P P').mp q)) (fun q => r2 fun z => q ((bo_eq P P').mpr z))
theorem ifnullY (X : St p l e R s m args below meth c Z B own nm ml ret n0 T h k n) {pc pc' : Nat} {Ls : Array Slot} {st : List Value} {o : Int} (hd : decode B pc = .ok (.ifnull o, 3)) (hp : (decide (0 ≤ (pc : Int) + o) && decide (((pc : Int) + o).toNat = pc')) = true)
    (r : Go p e below s n0 Q kC kS (T.setTop (mkF m pc' Ls st))) : Go p e below s n0 Q kC kS (T.setTop (mkF m pc Ls (.null :: st))) := by
  obtain ⟨⟨hx, rfl, -⟩, locs, X, -⟩ := X
  simp only [Bool.and_eq_true, decide_eq_true_eq] at hp
  exact r.st fun u kk => XS.ifnullYes X.here hx rfl rfl hd rfl hp.1 hp.2 kk
theorem ifnonnullY (X : St p l e R s m args below meth c Z B own nm ml ret n0 T h k n) {pc pc' : Nat} {Ls : Array Slot} {st : List Value} {o : Int} {b : Addr} (hd : decode B pc = .ok (.ifnonnull o, 3)) (hp : (decide (0 ≤ (pc : Int) + o) && decide (((pc : Int) + o).toNat = pc')) = true)
    (r : Go p e below s n0 Q kC kS (T.setTop (mkF m pc' Ls st))) : Go p e below s n0 Q kC kS (T.setTop (mkF m pc Ls (.ref b :: st))) := by
  obtain ⟨⟨hx, rfl, -⟩, locs, X, -⟩ := X
  simp only [Bool.and_eq_true, decide_eq_true_eq] at hp
  exact r.st fun u kk => Jvm.Free.XT.ifnonnullYes X.here hx rfl rfl hd rfl hp.1 hp.2 kk
theorem ifnullN (X : St p l e R s m args below meth c Z B own nm ml ret n0 T h k n) {pc : Nat} {Ls : Array Slot} {st : List Value} {o : Int} {b : Addr} (hd : decode B pc = .ok (.ifnull o, 3)) 
    (r : Go p e below s n0 Q kC kS (T.setTop (mkF m (pc + 3) Ls (st)))) : Go p e below s n0 Q kC kS (T.setTop (mkF m pc Ls (.ref b :: st))) := by
  obtain ⟨⟨hx, rfl, -⟩, locs, X, -⟩ := X
  exact r.st fun u kk => XS.ifnullNo X.here hx rfl hd rfl kk
theorem ifnonnullN (X : St p l e R s m args below meth c Z B own nm ml ret n0 T h k n) {pc : Nat} {Ls : Array Slot} {st : List Value} {o : Int} (hd : decode B pc = .ok (.ifnonnull o, 3)) 
    (r : Go p e below s n0 Q kC kS (T.setTop (mkF m (pc + 3) Ls (st)))) : Go p e below s n0 Q kC kS (T.setTop (mkF m pc Ls (.null :: st))) := by
  obtain ⟨⟨hx, rfl, -⟩, locs, X, -⟩ := X
  exact r.st fun u kk => Jvm.Free.XT.ifnonnullNo X.here hx rfl hd rfl kk
/-- a double's number, in units of 2^-1074 -/
def dz (x : UInt64) : Int := FP.Core.zval FP.Core.b64 (FP.Core.val64 x)
theorem nn_val {x : UInt64} (q : NoNaN64 x) : FP.Core.val64 x ≠ .nan := (FP.Core.notNaN_iff x).mp (noNaN64_no.mp q)
theorem dcmp_dz {x y : UInt64} (nx : NoNaN64 x) (ny : NoNaN64 y) : FP.dcmp x y = some (compare (dz x) (dz y)) := FP.Core.dcmp_zval (nn_val nx) (nn_val ny)
theorem cmpV_dz {x y : UInt64} (nx : NoNaN64 x) (ny : NoNaN64 y) (cd : ClassFile.Cond) (o : CmpOp) : cmpI cd (cmpValue (FP.dcmp x y) o).toInt 0 ↔ cmpI cd (dz x) (dz y) := by
  rw [dcmp_dz nx ny]
  have key : (cmpValue (some (compare (dz x) (dz y))) o).toInt = if dz x < dz y then -1 else if dz x = dz y then 0 else 1 := by
    rw [FP.Core.compare_ite]; split
    · cases o <;> rfl
    · split
      · cases o <;> rfl
      · cases o <;> rfl
  rw [key]
  split
  · cases cd <;> simp [cmpI] <;> omega
  · split
    · cases cd <;> simp [cmpI] <;> omega
    · cases cd <;> simp [cmpI] <;> omega
/-- dcmpl | dcmpg and the branch behind it, of two that are no NaN -/
theorem dcmpF (X : St p l e R s m args below meth c Z B own nm ml ret n0 T h k n) {pc pc' : Nat} {Ls : Array Slot} {st : List Value} {cd : ClassFile.Cond} {op : CmpOp} {o : Int} {x y : UInt64} (hd1 : decode B pc = .ok (.dcmp op, 1)) (hd : decode B (pc + 1) = .ok (.ifCond cd o, 3)) (hp : (decide (0 ≤ ((pc + 1 : Nat) : Int) + o) && decide ((((pc + 1 : Nat) : Int) + o).toNat = pc')) = true) (nx : NoNaN64 x) (ny : NoNaN64 y)
    (r1 : cmpI cd (dz x) (dz y) → Go p e below s n0 Q kC kS (T.setTop (mkF m pc' Ls st))) (r2 : ¬ cmpI cd (dz x) (dz y) → Go p e below s n0 Q kC kS (T.setTop (mkF m (pc + 1 + 3) Ls st))) : Go p e below s n0 Q kC kS (T.setTop (mkF m pc Ls (.double y :: .double x :: st))) := by
  have r : Go p e below s n0 Q kC kS (T.setTop (mkF m (pc + 1) Ls (.int (cmpValue (FP.dcmp x y) op) :: st))) :=
    iff_ X hd hp (fun q => r1 ((cmpV_dz nx ny cd op).mp q)) (fun q => r2 fun z => q ((cmpV_dz nx ny cd op).mpr z))
  obtain ⟨⟨hx, rfl, -⟩, locs, X, -⟩ := X
  exact r.st fun u kk => XS.dcmpS X.here hx rfl hd1 rfl rfl kk
theorem cmpL_I (x y : Int64) (cd : ClassFile.Cond) : cmpI cd (Jvm.Free.XT.cmpL x y).toInt 0 ↔ cmpI cd x.toInt y.toInt := by
  have key : (Jvm.Free.XT.cmpL x y).toInt = if y.toInt < x.toInt then 1 else if x.toInt = y.toInt then 0 else -1 := by
    simp only [Jvm.Free.XT.cmpL, Int64.lt_iff_toInt_lt, ← Int64.toInt_inj]
    split
    · rfl
    · split <;> rfl
  rw [key]
  split
  · cases cd <;> simp [cmpI] <;> omega
  · split
    · cases cd <;> simp [cmpI] <;> omega
    · cases cd <;> simp [cmpI] <;> omega
theorem lcmpF (X : St p l e R s m args below meth c Z B own nm ml ret n0 T h k n) {pc pc' : Nat} {Ls : Array Slot} {st : List Value} {cd : ClassFile.Cond} {o : Int} {x y : Int64} (hd1 : decode B pc = .ok (.lcmp, 1)) (hd : decode B (pc + 1) = .ok (.ifCond cd o, 3)) (hp : (decide (0 ≤ ((pc + 1 : Nat) : Int) + o) && decide ((((pc + 1 : Nat) : Int) + o).toNat = pc')) = true)
    (r1 : cmpI cd x.toInt y.toInt → Go p e below s n0 Q kC kS (T.setTop (mkF m pc' Ls st))) (r2 : ¬ cmpI cd x.toInt y.toInt → Go p e below s n0 Q kC kS (T.setTop (mkF m (pc + 1 + 3) Ls st))) : Go p e below s n0 Q kC kS (T.setTop (mkF m pc Ls (.long y :: .long x :: st))) := by
  have r : Go p e below s n0 Q kC kS (T.setTop (mkF m (pc + 1) Ls (.int (Jvm.Free.XT.cmpL x y) :: st))) :=
    iff_ X hd hp (fun q => r1 ((cmpL_I x y cd).mp q)) (fun q => r2 fun z => q ((cmpL_I x y cd).mpr z))
  obtain ⟨⟨hx, rfl, -⟩, locs, X, -⟩ := X
  exact r.st fun u kk => Jvm.Free.XT.lcmp X.here hx rfl hd1 rfl kk
theorem ldcI (X : St p l e R s m args below meth c Z B own nm ml ret n0 T h k n) {a0 : Array Value} {pc index : Nat} {Ls : Array Slot} {st : List Value} {v : Int32} (hd : decode B pc = .ok (.ldc index, 2)) (w : (Cond.constant own index v).before a0 Z = true)
    (r : Go p e below s n0 Q kC kS (T.setTop (mkF m (pc + 2) Ls (.int v :: st)))) : Go p e below s n0 Q kC kS (T.setTop (mkF m pc Ls st)) := by
  obtain ⟨⟨hx, rfl, hZ, hown, -⟩, locs, X, -⟩ := X
  exact r.st fun u kk => X.ldcInt (g := mkF m pc Ls st) hx hown (mvT hZ w) rfl hd u kk
theorem ldc2J (X : St p l e R s m args below meth c Z B own nm ml ret n0 T h k n) {a0 : Array Value} {pc index : Nat} {Ls : Array Slot} {st : List Value} {v : Int64} (hd : decode B pc = .ok (.ldc2_w index, 3)) (w : (Cond.constantLong own index v).before a0 Z = true)
    (r : Go p e below s n0 Q kC kS (T.setTop (mkF m (pc + 3) Ls (.long v :: st)))) : Go p e below s n0 Q kC kS (T.setTop (mkF m pc Ls st)) := by
  obtain ⟨⟨hx, rfl, hZ, hown, -⟩, locs, X, -⟩ := X
  exact r.st fun u kk => X.ldc2Long (g := mkF m pc Ls st) hx hown (mvT hZ w) rfl hd u kk
theorem ldc2D (X : St p l e R s m args below meth c Z B own nm ml ret n0 T h k n) {a0 : Array Value} {pc index : Nat} {Ls : Array Slot} {st : List Value} {v : UInt64} (hd : decode B pc = .ok (.ldc2_w index, 3)) (w : (Cond.constantDouble own index v).before a0 Z = true)
    (r : Go p e below s n0 Q kC kS (T.setTop (mkF m (pc + 3) Ls (.double v :: st)))) : Go p e below s n0 Q kC kS (T.setTop (mkF m pc Ls st)) := by
  obtain ⟨⟨hx, rfl, hZ, hown, -⟩, locs, X, -⟩ := X
  exact r.st fun u kk => X.ldc2DoubleC (g := mkF m pc Ls st) hx hown (mvT hZ w) rfl hd u kk
theorem leaveG (X : St p l e R s m args below meth c Z B own nm ml ret n0 T h k n) {v : Option Value} {t : State} (hv : meth.sig.returnType = none → v = none) (hQ : Q v h) (hk : k ≤ kC) (hn : n ≤ kS)
    (st : ∀ (locs : List Loc) (fs : List Frame), p.tables.exec = Jvm.exec → c.code = B → meth.sig.returnType = ret → Stand p l e R s m args below meth c T locs k n → (∀ (f : JFrame) (acts : List Action), f.method = m → f.locked = none → f.entered = [] → (doReturn e (T.setTop f) acts v).1 = T.setFrames fs) → Steps p.tables e below t (T.setFrames fs)) : Go p e below s n0 Q kC kS t := by
  obtain ⟨⟨hx, hby, hZ, hown, hml, hret, hlocks, hnm⟩, locs, X, eT, N⟩ := X
  obtain ⟨fs, hr, hrun, hended, hW, hsame⟩ := X.leave (v := v) hv hlocks
  refine ⟨_, _, st locs fs hx hby hret X hr, hrun, hended, _, _, rfl, ⟨?_, N⟩, ⟨_, rfl⟩, hW, hsame.mono hk hn⟩
  show Q v T.heap
  rw [eT]; exact hQ
theorem retV (X : St p l e R s m args below meth c Z B own nm ml none n0 T h k n) {pc : Nat} {Ls : Array Slot} (hd : decode B pc = .ok (.return_, 1)) (hQ : Q none h) (hk : k ≤ kC) (hn : n ≤ kS) : Go p e below s n0 Q kC kS (T.setTop (mkF m pc Ls [])) :=
  leaveG X (v := none) (fun _ => rfl) hQ hk hn fun locs fs hx hby hret X hr => X.returnOut hx hret (by rw [hby]; exact hd) hr
theorem retB (X : St p l e R s m args below meth c Z B own nm ml (some .boolean) n0 T h k n) {pc : Nat} {Ls : Array Slot} {st : List Value} {z : Int32} (hd : decode B pc = .ok (.ireturn, 1)) (hz : z &&& 1 = z) (hQ : Q (some (.int z)) h) (hk : k ≤ kC) (hn : n ≤ kS) : Go p e below s n0 Q kC kS (T.setTop (mkF m pc Ls (.int z :: st))) :=
  leaveG X (v := some (.int z)) (fun q => by rw [X.1.2.2.2.2.2.1] at q; cases q) hQ hk hn fun locs fs hx hby hret X hr => retN X hx (t := .boolean) hret (by simp) (by rw [hby]; exact hd) (by intro f acts h1 h2 h3; rw [show nar .boolean z = z from hz]; exact hr f acts h1 h2 h3)
theorem bo_and (P : Prop) [Decidable P] : bo P &&& 1 = bo P := by unfold bo; split <;> decide
theorem retO (w : Value) (t : FieldType) {i : Instr} (X : St p l e R s m args below meth c Z B own nm ml (some t) n0 T h k n) {pc : Nat} {Ls : Array Slot} {st : List Value} (hd : decode B pc = .ok (i, 1)) (hw : narrow t w = w)
    (hi : (i = .ireturn ∧ (t = .int ∨ t = .boolean ∨ t = .byte ∨ t = .char ∨ t = .short) ∧ ∃ z, w = .int z) ∨ (i = .lreturn ∧ t = .long ∧ ∃ z, w = .long z) ∨ (i = .dreturn ∧ t = .double ∧ ∃ z, w = .double z) ∨ (i = .freturn ∧ t = .float ∧ ∃ z, w = .float z) ∨ (i = .areturn ∧ t.isReference = true ∧ w.isRef = true))
    (hQ : Q (some w) h) (hk : k ≤ kC) (hn : n ≤ kS) : Go p e below s n0 Q kC kS (T.setTop (mkF m pc Ls (w :: st))) :=
  leaveG X (v := some w) (fun q => by rw [X.1.2.2.2.2.2.1] at q; cases q) hQ hk hn fun locs fs hx hby hret X hr => retOut X hx hret hw hi (by rw [hby]; exact hd) hr
theorem retI (X : St p l e R s m args below meth c Z B own nm ml (some .int) n0 T h k n) {pc : Nat} {Ls : Array Slot} {st : List Value} {z : Int32} (hd : decode B pc = .ok (.ireturn, 1)) (hQ : Q (some (.int z)) h) (hk : k ≤ kC) (hn : n ≤ kS) : Go p e below s n0 Q kC kS (T.setTop (mkF m pc Ls (.int z :: st))) :=
  retO (.int z) .int X hd rfl (Or.inl ⟨rfl, Or.inl rfl, z, rfl⟩) hQ hk hn
theorem retD (X : St p l e R s m args below meth c Z B own nm ml (some .double) n0 T h k n) {pc : Nat} {Ls : Array Slot} {st : List Value} {z : UInt64} (hd : decode B pc = .ok (.dreturn, 1)) (hQ : Q (some (.double z)) h) (hk : k ≤ kC) (hn : n ≤ kS) : Go p e below s n0 Q kC kS (T.setTop (mkF m pc Ls (.double z :: st))) :=
  retO (.double z) .double X hd rfl (Or.inr (Or.inr (Or.inl ⟨rfl, rfl, z, rfl⟩))) hQ hk hn
theorem retA {t : FieldType} (X : St p l e R s m args below meth c Z B own nm ml (some t) n0 T h k n) {pc : Nat} {Ls : Array Slot} {st : List Value} {v : Value} (hd : decode B pc = .ok (.areturn, 1)) (ht : t.isReference = true) (hv : v.isRef = true) (hw : narrow t v = v) (hQ : Q (some v) h) (hk : k ≤ kC) (hn : n ≤ kS) : Go p e below s n0 Q kC kS (T.setTop (mkF m pc Ls (v :: st))) :=
  retO v t X hd hw (Or.inr (Or.inr (Or.inr (Or.inr ⟨rfl, ht, hv⟩)))) hQ hk hn
theorem getF_ (X : St p l e R s m args below meth c Z B own nm ml ret n0 T h k n) {a0 : Array Value} {R0 O f d host : String} {index pc : Nat} {Ls : Array Slot} {st : List Value} {a : Addr} {v : Value} (hd : decode B pc = .ok (.getfield index, 3)) (w : (Cond.fieldLink own index R0 f d).before a0 Z = true ∨ (Cond.fieldLinkNest own index R0 f d host).before a0 Z = true) (via : Via Z R0 O f d) (F : Fld Z h a O f d v)
    (r : ∀ T', St p l e R s m args below meth c Z B own nm ml ret n0 T' h k n → Go p e below s n0 Q kC kS (T'.setTop (mkF m (pc + 3) Ls (v :: st)))) : Go p e below s n0 Q kC kS (T.setTop (mkF m pc Ls (.ref a :: st))) := by
  obtain ⟨⟨hx, hby, hZ, hown, q⟩, locs, X, eT, N⟩ := X
  obtain ⟨T', X', e', st'⟩ := getF X hx hZ hown w via eT F (g := mkF m pc Ls (.ref a :: st)) rfl rfl (by rw [hby]; exact hd)
  exact (r T' ⟨⟨hx, hby, hZ, hown, q⟩, locs, X', e', N⟩).st st'
theorem putF_ (X : St p l e R s m args below meth c Z B own nm ml ret n0 T h k n) {a0 : Array Value} {R0 O f d host C : String} {index kk pc : Nat} {ty : FieldType} {Ls : Array Slot} {st : List Value} {a : Addr} {v old : Value} (hd : decode B pc = .ok (.putfield index, 3)) (w : (Cond.fieldLink own index R0 f d).before a0 Z = true ∨ (Cond.fieldLinkNest own index R0 f d host).before a0 Z = true) (via : Via Z R0 O f d) (F : Fld Z h a O f d old) (E : Exa Z h a C)
    (L : (Cond.lays C O f d).before a0 Z = true ∨ ((Cond.laysFinal C O f d).before a0 Z = true ∧ own = O ∧ nm = "<init>")) (wi : (Cond.instantiable C kk).before a0 Z = true) (hty : parseFieldDescriptor d = some ty) (hv : narrow ty v = v) (hf : fits ty v = true) (ha : n0 ≤ a)
    (r : ∀ T' h', St p l e R s m args below meth c Z B own nm ml ret n0 T' h' k n → Wr h h' a (Jvm.RoadKit.slotOf Z O f d) v → Go p e below s n0 Q kC kS (T'.setTop (mkF m (pc + 3) Ls st))) : Go p e below s n0 Q kC kS (T.setTop (mkF m pc Ls (v :: .ref a :: st))) := by
  obtain ⟨⟨hx, hby, hZ, hown, q1, q2, q3, q4⟩, locs, X, eT, N⟩ := X
  obtain ⟨T', h', X', e', W', st'⟩ := putF X hx hZ hown w via eT F E (L.imp id fun ⟨z1, z2, z3⟩ => ⟨z1, z2, q4.trans z3⟩) wi hty hv hf (g := mkF m pc Ls (v :: .ref a :: st)) rfl rfl (by rw [hby]; exact hd)
  exact (r T' h' ⟨⟨hx, hby, hZ, hown, q1, q2, q3, q4⟩, _, X', e', Fr.snoc X' N ha⟩ W').st st'
theorem getS_ (X : St p l e R s m args below meth c Z B own nm ml ret n0 T h k n) {a0 : Array Value} {R0 O f d host : String} {index pc : Nat} {Ls : Array Slot} {st : List Value} {v : Value} (hd : decode B pc = .ok (.getstatic index, 3)) (w : (Cond.fieldLink own index R0 f d).before a0 Z = true ∨ (Cond.fieldLinkNest own index R0 f d host).before a0 Z = true) (via : Via Z R0 O f d) (F : Sta Z h O f d v)
    (r : ∀ T', St p l e R s m args below meth c Z B own nm ml ret n0 T' h k n → Go p e below s n0 Q kC kS (T'.setTop (mkF m (pc + 3) Ls (v :: st)))) : Go p e below s n0 Q kC kS (T.setTop (mkF m pc Ls st)) := by
  obtain ⟨⟨hx, hby, hZ, hown, q⟩, locs, X, eT, N⟩ := X
  obtain ⟨T', X', e', st'⟩ := getS2 X hx hZ hown w via eT F (g := mkF m pc Ls st) rfl (by rw [hby]; exact hd)
  exact (r T' ⟨⟨hx, hby, hZ, hown, q⟩, locs, X', e', N⟩).st st'
theorem newO_ (X : St p l e R s m args below meth c Z B own nm ml ret n0 T h k n) {a0 : Array Value} {C : String} {index cnt pc : Nat} {Ls : Array Slot} {st : List Value} (hd : decode B pc = .ok (.new index, 3)) (w : (Cond.classLink own index C).before a0 Z = true) (wi : (Cond.instantiable C cnt).before a0 Z = true) (wz : (Cond.initialized C).before a0 Z = true) (hc : k + 1 ≤ R.cells) (hl : n + cnt ≤ R.slots)
    (r : ∀ T' h' a, a = h.size → St p l e R s m args below meth c Z B own nm ml ret n0 T' h' (k + 1) (n + cnt) → Ext h h' → Exa Z h' a C → (∀ {O f d : String} {ty : FieldType}, Laid Z a0 C O f d → parseFieldDescriptor d = some ty → Fld Z h' a O f d (defaultValue ty)) → Go p e below s n0 Q kC kS (T'.setTop (mkF m (pc + 3) Ls (.ref a :: st)))) : Go p e below s n0 Q kC kS (T.setTop (mkF m pc Ls st)) := by
  obtain ⟨⟨hx, hby, hZ, hown, q⟩, locs, X, eT, N⟩ := X
  obtain ⟨T', h', X', e', E', A', D', -, st'⟩ := newO X hx hZ hown w wi wz eT (g := mkF m pc Ls st) rfl (by rw [hby]; exact hd) hc hl
  exact (r T' h' _ rfl ⟨⟨hx, hby, hZ, hown, q⟩, locs, X', e', N⟩ E' A' D').st st'
theorem initO_ (X : St p l e R s m args below meth c Z B own nm ml ret n0 T h k n) {a0 : Array Value} {idx W pc : Nat} {Ls : Array Slot} {st : List Value} {a : Addr} (hd : decode B pc = .ok (.invokespecial idx, 3)) (w1 : (Cond.methodLink own idx Lib.objectInit).before a0 Z = true) (w2 : (Cond.instanceMethod Lib.objectInit).before a0 Z = true) (w3 : (Cond.code Lib.objectInit ⟨#[0xb1]⟩ 1 none).before a0 Z = true) (hsz : Ls.size = ml)
    (hf : 1 ≤ R.frames) (hW : 2 * 0 + (st.map fun v => v.category).sum ≤ W) (hl : W + 12 ≤ R.locals)
    (r : ∀ T', St p l e R s m args below meth c Z B own nm ml ret n0 T' h k n → Go p e below s n0 Q kC kS (T'.setTop (mkF m (pc + 3) Ls st))) : Go p e below s n0 Q kC kS (T.setTop (mkF m pc Ls (.ref a :: st))) := by
  obtain ⟨⟨hx, hby, hZ, hown, hml, q⟩, locs, X, eT, N⟩ := X
  obtain ⟨T', X', e', st'⟩ := initO X hx hZ hown w1 w2 w3 eT (g := mkF m pc Ls (.ref a :: st)) rfl (by rw [hml]; exact hsz) rfl (by rw [hby]; exact hd) hf hW hl
  exact (r T' ⟨⟨hx, hby, hZ, hown, hml, q⟩, locs, X', e', N⟩).st st'

theorem newP_ (X : St p l e R s m args below meth c Z B own nm ml ret n0 T h k n) {a0 : Array Value} {aty : ArrayType} {z : Int32} {pc : Nat} {Ls : Array Slot} {st : List Value} (cap : Nat) (ty : FieldType) (dv : Value) (ad : String) (hd : decode B pc = .ok (.newarray aty, 2)) (hty : newarray.typeOf aty = ty) (hdv : defaultValue ty = dv) (had : "[" ++ ty.toString = ad) (w : (Cond.arrayClass ty).before a0 Z = true) (hz : ¬ z < 0) (hcap : z.toNatClampNeg ≤ cap) (hb : cap * 8 ≤ 536870912) (hc : k + 1 ≤ R.cells) (hl : n + cap ≤ R.slots)
    (r : ∀ T' h' a kk, a = h.size → St p l e R s m args below meth c Z B own nm ml ret n0 T' h' (k + 1) (n + cap) → Ext h h' → Arv Z h' a kk ty z [] dv → Exa Z h' a ad → Go p e below s n0 Q kC kS (T'.setTop (mkF m (pc + 2) Ls (.ref a :: st)))) : Go p e below s n0 Q kC kS (T.setTop (mkF m pc Ls (.int z :: st))) := by
  subst hty hdv
  obtain ⟨⟨hx, hby, hZ, q⟩, locs, X, eT, N⟩ := X
  obtain ⟨T', h', cA, X', e', E', A', G', st'⟩ := newPE X hx hZ w eT (g := mkF m pc Ls (.int z :: st)) rfl (by rw [hby]; exact hd) rfl hz hcap hb hc hl had
  exact (r T' h' _ cA rfl ⟨⟨hx, hby, hZ, q⟩, locs, X', e', N⟩ E' (Arv.new A' hz) G').st st'
theorem alen_ (X : St p l e R s m args below meth c Z B own nm ml ret n0 T h k n) {kk : ClassId} {ty : FieldType} {z : Int32} {vs : List Value} {dv : Value} {a : Addr} {pc : Nat} {Ls : Array Slot} {st : List Value} (hd : decode B pc = .ok (.arraylength, 1)) (A : Arv Z h a kk ty z vs dv)
    (r : Go p e below s n0 Q kC kS (T.setTop (mkF m (pc + 1) Ls (.int z :: st)))) : Go p e below s n0 Q kC kS (T.setTop (mkF m pc Ls (.ref a :: st))) := by
  obtain ⟨⟨hx, rfl, hZ, -⟩, locs, X, eT, -⟩ := X
  obtain ⟨cl, A, -, S, hz, -⟩ := A
  rw [← len_of S hz] at r
  exact r.st fun u kk => X.arraylength (g := mkF m pc Ls (.ref a :: st)) hx (by rw [eT]; exact A.1) (State.isArrayOf_alike hZ.alike A.2.1) rfl rfl hd u kk
theorem daload_ (X : St p l e R s m args below meth c Z B own nm ml ret n0 T h k n) {kk : ClassId} {z j : Int32} {vs : List Value} {dv : Value} {v : UInt64} {a : Addr} {pc : Nat} {Ls : Array Slot} {st : List Value} (hd : decode B pc = .ok (.daload, 1)) (A : Arv Z h a kk .double z vs dv) (hj : ¬ j < 0 ∧ j < z) (hv : vs.getD j.toNatClampNeg dv = .double v)
    (r : Go p e below s n0 Q kC kS (T.setTop (mkF m (pc + 1) Ls (.double v :: st)))) : Go p e below s n0 Q kC kS (T.setTop (mkF m pc Ls (.int j :: .ref a :: st))) := by
  obtain ⟨⟨hx, rfl, hZ, -⟩, locs, X, eT, -⟩ := X
  obtain ⟨cl, A, -, S, hz, H, -⟩ := A
  exact r.st fun u kk => X.daload (g := mkF m pc Ls (.int j :: .ref a :: st)) hx (by rw [eT]; exact A.1) (State.isArrayOf_alike hZ.alike A.2.1) A.2.2 (inb_of S hj) (H.at (inb_of S hj) hv) rfl rfl hd u kk
theorem iaload_ (X : St p l e R s m args below meth c Z B own nm ml ret n0 T h k n) {kk : ClassId} {z j : Int32} {vs : List Value} {dv : Value} {v : Int32} {a : Addr} {pc : Nat} {Ls : Array Slot} {st : List Value} (hd : decode B pc = .ok (.iaload, 1)) (A : Arv Z h a kk .int z vs dv) (hj : ¬ j < 0 ∧ j < z) (hv : vs.getD j.toNatClampNeg dv = .int v)
    (r : Go p e below s n0 Q kC kS (T.setTop (mkF m (pc + 1) Ls (.int v :: st)))) : Go p e below s n0 Q kC kS (T.setTop (mkF m pc Ls (.int j :: .ref a :: st))) := by
  obtain ⟨⟨hx, rfl, hZ, -⟩, locs, X, eT, -⟩ := X
  obtain ⟨cl, A, -, S, hz, H, -⟩ := A
  exact r.st fun u kk => X.iaload (g := mkF m pc Ls (.int j :: .ref a :: st)) hx (by rw [eT]; exact A.1) (State.isArrayOf_alike hZ.alike A.2.1) A.2.2 (inb_of S hj) (H.at (inb_of S hj) hv) rfl rfl hd u kk
theorem laload_ (X : St p l e R s m args below meth c Z B own nm ml ret n0 T h k n) {kk : ClassId} {z j : Int32} {vs : List Value} {dv : Value} {v : Int64} {a : Addr} {pc : Nat} {Ls : Array Slot} {st : List Value} (hd : decode B pc = .ok (.laload, 1)) (A : Arv Z h a kk .long z vs dv) (hj : ¬ j < 0 ∧ j < z) (hv : vs.getD j.toNatClampNeg dv = .long v)
    (r : Go p e below s n0 Q kC kS (T.setTop (mkF m (pc + 1) Ls (.long v :: st)))) : Go p e below s n0 Q kC kS (T.setTop (mkF m pc Ls (.int j :: .ref a :: st))) := by
  obtain ⟨⟨hx, rfl, hZ, -⟩, locs, X, eT, -⟩ := X
  obtain ⟨cl, A, -, S, hz, H, -⟩ := A
  exact r.st fun u kk => X.laload (g := mkF m pc Ls (.int j :: .ref a :: st)) hx (by rw [eT]; exact A.1) (State.isArrayOf_alike hZ.alike A.2.1) A.2.2 (inb_of S hj) (H.at (inb_of S hj) hv) rfl rfl hd u kk
theorem aaload_ (X : St p l e R s m args below meth c Z B own nm ml ret n0 T h k n) {kk : ClassId} {ty : FieldType} {z j : Int32} {vs : List Value} {dv v : Value} {a : Addr} {pc : Nat} {Ls : Array Slot} {st : List Value} (hd : decode B pc = .ok (.aaload, 1)) (A : Arv Z h a kk ty z vs dv) (hty : ty.isReference = true) (hj : ¬ j < 0 ∧ j < z) (hv : vs.getD j.toNatClampNeg dv = v)
    (r : Go p e below s n0 Q kC kS (T.setTop (mkF m (pc + 1) Ls (v :: st)))) : Go p e below s n0 Q kC kS (T.setTop (mkF m pc Ls (.int j :: .ref a :: st))) := by
  obtain ⟨⟨hx, rfl, hZ, -⟩, locs, X, eT, -⟩ := X
  obtain ⟨cl, A, -, S, hz, H, -⟩ := A
  exact r.st fun u kk => X.aaload (g := mkF m pc Ls (.int j :: .ref a :: st)) hx (by rw [eT]; exact A.1) (State.isArrayOf_alike hZ.alike A.2.1) hty A.2.2 (inb_of S hj) (H.at (inb_of S hj) hv) rfl rfl hd u kk
theorem dastore_ (X : St p l e R s m args below meth c Z B own nm ml ret n0 T h k n) {kk : ClassId} {z j : Int32} {vs : List Value} {dv : Value} {v : UInt64} {a : Addr} {pc : Nat} {Ls : Array Slot} {st : List Value} (i : Nat) (hd : decode B pc = .ok (.dastore, 1)) (A : Arv Z h a kk .double z vs dv) (hj : ¬ j < 0 ∧ j < z) (hi : j.toNatClampNeg = i) (hl : i < vs.length) (ha : n0 ≤ a)
    (r : ∀ T' h', St p l e R s m args below meth c Z B own nm ml ret n0 T' h' k n → Wr h h' a j.toNatClampNeg (.double v) → Arv Z h' a kk .double z (vs.set i (.double v)) dv → Go p e below s n0 Q kC kS (T'.setTop (mkF m (pc + 1) Ls st))) : Go p e below s n0 Q kC kS (T.setTop (mkF m pc Ls (.double v :: .int j :: .ref a :: st))) := by
  obtain ⟨⟨hx, hby, hZ, q⟩, locs, X, eT, N⟩ := X
  obtain ⟨cl, A, q1, S, hz, H, F⟩ := A
  obtain ⟨T', h', X', e', W', st'⟩ := stD X hx hZ eT A (inb_of S hj) (g := mkF m pc Ls (.double v :: .int j :: .ref a :: st)) rfl rfl (by rw [hby]; exact hd)
  exact (r T' h' ⟨⟨hx, hby, hZ, q⟩, _, X', e', Fr.snoc X' N ha⟩ W' (Arv.set A q1 S hz H F rfl W' i hi hl)).st st'
theorem iastore_ (X : St p l e R s m args below meth c Z B own nm ml ret n0 T h k n) {kk : ClassId} {z j : Int32} {vs : List Value} {dv : Value} {v : Int32} {a : Addr} {pc : Nat} {Ls : Array Slot} {st : List Value} (i : Nat) (hd : decode B pc = .ok (.iastore, 1)) (A : Arv Z h a kk .int z vs dv) (hj : ¬ j < 0 ∧ j < z) (hi : j.toNatClampNeg = i) (hl : i < vs.length) (ha : n0 ≤ a)
    (r : ∀ T' h', St p l e R s m args below meth c Z B own nm ml ret n0 T' h' k n → Wr h h' a j.toNatClampNeg (.int v) → Arv Z h' a kk .int z (vs.set i (.int v)) dv → Go p e below s n0 Q kC kS (T'.setTop (mkF m (pc + 1) Ls st))) : Go p e below s n0 Q kC kS (T.setTop (mkF m pc Ls (.int v :: .int j :: .ref a :: st))) := by
  obtain ⟨⟨hx, hby, hZ, q⟩, locs, X, eT, N⟩ := X
  obtain ⟨cl, A, q1, S, hz, H, F⟩ := A
  obtain ⟨T', h', X', e', W', st'⟩ := stI X hx hZ eT A (inb_of S hj) (g := mkF m pc Ls (.int v :: .int j :: .ref a :: st)) rfl rfl (by rw [hby]; exact hd)
  exact (r T' h' ⟨⟨hx, hby, hZ, q⟩, _, X', e', Fr.snoc X' N ha⟩ W' (Arv.set A q1 S hz H F rfl W' i hi hl)).st st'
theorem lastore_ (X : St p l e R s m args below meth c Z B own nm ml ret n0 T h k n) {kk : ClassId} {z j : Int32} {vs : List Value} {dv : Value} {v : Int64} {a : Addr} {pc : Nat} {Ls : Array Slot} {st : List Value} (i : Nat) (hd : decode B pc = .ok (.lastore, 1)) (A : Arv Z h a kk .long z vs dv) (hj : ¬ j < 0 ∧ j < z) (hi : j.toNatClampNeg = i) (hl : i < vs.length) (ha : n0 ≤ a)
    (r : ∀ T' h', St p l e R s m args below meth c Z B own nm ml ret n0 T' h' k n → Wr h h' a j.toNatClampNeg (.long v) → Arv Z h' a kk .long z (vs.set i (.long v)) dv → Go p e below s n0 Q kC kS (T'.setTop (mkF m (pc + 1) Ls st))) : Go p e below s n0 Q kC kS (T.setTop (mkF m pc Ls (.long v :: .int j :: .ref a :: st))) := by
  obtain ⟨⟨hx, hby, hZ, q⟩, locs, X, eT, N⟩ := X
  obtain ⟨cl, A, q1, S, hz, H, F⟩ := A
  obtain ⟨T', h', X', e', W', st'⟩ := stJ X hx hZ eT A (inb_of S hj) (g := mkF m pc Ls (.long v :: .int j :: .ref a :: st)) rfl rfl (by rw [hby]; exact hd)
  exact (r T' h' ⟨⟨hx, hby, hZ, q⟩, _, X', e', Fr.snoc X' N ha⟩ W' (Arv.set A q1 S hz H F rfl W' i hi hl)).st st'
theorem newRA_ (X : St p l e R s m args below meth c Z B own nm ml ret n0 T h k n) {a0 : Array Value} {C ad : String} {ty : FieldType} {index : Nat} {z : Int32} {pc : Nat} {Ls : Array Slot} {st : List Value} (cap : Nat) (hd : decode B pc = .ok (.anewarray index, 3)) (hC : (FieldType.array ty).toString = C) (had : "[" ++ C = ad) (w1 : (Cond.classLink own index C).before a0 Z = true) (w2 : (Cond.arrayOver (.array ty)).before a0 Z = true) (hz : ¬ z < 0) (hcap : z.toNatClampNeg ≤ cap) (hb : cap * 8 ≤ 536870912) (hc : k + 1 ≤ R.cells) (hl : n + cap ≤ R.slots)
    (r : ∀ T' h' a kk, a = h.size → St p l e R s m args below meth c Z B own nm ml ret n0 T' h' (k + 1) (n + cap) → Ext h h' → Arv Z h' a kk (.array ty) z [] .null → Exa Z h' a ad → OvrA Z kk ty C → Go p e below s n0 Q kC kS (T'.setTop (mkF m (pc + 3) Ls (.ref a :: st)))) : Go p e below s n0 Q kC kS (T.setTop (mkF m pc Ls (.int z :: st))) := by
  obtain ⟨⟨hx, hby, hZ, hown, q⟩, locs, X, eT, N⟩ := X
  obtain ⟨T', h', cA, X', e', E', A', G', O', st'⟩ := newRA X hx hZ hown hC w1 w2 eT (g := mkF m pc Ls (.int z :: st)) rfl (by rw [hby]; exact hd) rfl hz hcap hb hc hl had
  exact (r T' h' _ cA rfl ⟨⟨hx, hby, hZ, hown, q⟩, locs, X', e', N⟩ E' (Arv.new A' hz) G' O').st st'
theorem newRE_ (X : St p l e R s m args below meth c Z B own nm ml ret n0 T h k n) {a0 : Array Value} {C ad : String} {index : Nat} {z : Int32} {pc : Nat} {Ls : Array Slot} {st : List Value} (cap : Nat) (hd : decode B pc = .ok (.anewarray index, 3)) (had : "[" ++ (FieldType.object C).toString = ad) (w1 : (Cond.classLink own index C).before a0 Z = true) (w2 : (Cond.arrayOver (.object C)).before a0 Z = true) (hz : ¬ z < 0) (hcap : z.toNatClampNeg ≤ cap) (hb : cap * 8 ≤ 536870912) (hc : k + 1 ≤ R.cells) (hl : n + cap ≤ R.slots)
    (r : ∀ T' h' a kk, a = h.size → St p l e R s m args below meth c Z B own nm ml ret n0 T' h' (k + 1) (n + cap) → Ext h h' → Arv Z h' a kk (.object C) z [] .null → Exa Z h' a ad → Ovr Z kk C → Go p e below s n0 Q kC kS (T'.setTop (mkF m (pc + 3) Ls (.ref a :: st)))) : Go p e below s n0 Q kC kS (T.setTop (mkF m pc Ls (.int z :: st))) := by
  obtain ⟨⟨hx, hby, hZ, hown, q⟩, locs, X, eT, N⟩ := X
  obtain ⟨T', h', cA, X', e', E', A', G', O', st'⟩ := newRE X hx hZ hown w1 w2 eT (g := mkF m pc Ls (.int z :: st)) rfl (by rw [hby]; exact hd) rfl hz hcap hb hc hl had
  exact (r T' h' _ cA rfl ⟨⟨hx, hby, hZ, hown, q⟩, locs, X', e', N⟩ E' (Arv.new A' hz) G' O').st st'
theorem aastore_ (X : St p l e R s m args below meth c Z B own nm ml ret n0 T h k n) {kk : ClassId} {ty : FieldType} {z j : Int32} {vs : List Value} {dv v : Value} {a : Addr} {pc : Nat} {Ls : Array Slot} {st : List Value} (i : Nat) (hd : decode B pc = .ok (.aastore, 1)) (A : Arv Z h a kk ty z vs dv) (hty : ty.isReference = true) (hj : ¬ j < 0 ∧ j < z) (hi : j.toNatClampNeg = i) (hl : i < vs.length) (ha : n0 ≤ a) (hf : fits ty v = true) (F : ∀ cl : Cell, Arr Z h a cl ty → cl.cls = kk → Sto Z h a v)
    (r : ∀ T' h', St p l e R s m args below meth c Z B own nm ml ret n0 T' h' k n → Wr h h' a j.toNatClampNeg v → Arv Z h' a kk ty z (vs.set i v) dv → Go p e below s n0 Q kC kS (T'.setTop (mkF m (pc + 1) Ls st))) : Go p e below s n0 Q kC kS (T.setTop (mkF m pc Ls (v :: .int j :: .ref a :: st))) := by
  obtain ⟨⟨hx, hby, hZ, q⟩, locs, X, eT, N⟩ := X
  obtain ⟨cl, A, q1, S, hz, H, G⟩ := A
  obtain ⟨T', h', X', e', W', st'⟩ := stR X hx hZ eT A (inb_of S hj) hty (F cl A q1) (g := mkF m pc Ls (v :: .int j :: .ref a :: st)) rfl rfl (by rw [hby]; exact hd)
  exact (r T' h' ⟨⟨hx, hby, hZ, q⟩, _, X', e', Fr.snoc X' N ha⟩ W' (Arv.set A q1 S hz H G hf W' i hi hl)).st st'
theorem acmp_ (X : St p l e R s m args below meth c Z B own nm ml ret n0 T h k n) {cd : ACond} {pc pc' : Nat} {Ls : Array Slot} {st : List Value} {o : Int} {x y : Value} {same : Bool} (hd : decode B pc = .ok (.if_acmp cd o, 3)) (h1 : x.isRef = true) (h2 : y.isRef = true) (hq : decide (x = y) = same) (ho : 0 ≤ (pc : Int) + o) (hp : pc' = if acV cd same = true then ((pc : Int) + o).toNat else pc + 3)
    (r : Go p e below s n0 Q kC kS (T.setTop (mkF m pc' Ls st))) : Go p e below s n0 Q kC kS (T.setTop (mkF m pc Ls (y :: x :: st))) := by
  obtain ⟨⟨hx, rfl, -⟩, locs, X, -⟩ := X
  exact r.st fun u kk => Jvm.RoadKit.acmp (g := mkF m pc Ls (y :: x :: st)) X hx rfl h1 h2 rfl hd rfl hq ho hp kk

theorem gridM3_ (X : St p l e R s m args below meth c Z B own nm ml ret n0 T h k n) {a0 : Array Value} {C ad : String} {ty : FieldType} {index : Nat} {zk : Int32} {pc : Nat} {Ls : Array Slot} {st : List Value} (cap : Nat) (dv : Value) (hd : decode B pc = .ok (.multianewarray index 2, 4)) (hC : (FieldType.array ty).toString = C) (had : "[" ++ C = ad) (w1 : (Cond.classLink own index ad).before a0 Z = true) (w2 : (Cond.arrayOver (.array ty)).before a0 Z = true) (w3 : (Cond.arrayClass ty).before a0 Z = true) (hdv : defaultValue ty = dv) (hk : ¬ zk < 0) (hcap : zk.toNatClampNeg ≤ cap) (hb : cap * 8 ≤ 536870912) (hdf : fits ty (defaultValue ty) = true) (hdd : (defaultValue ty).isDefault = true) (hc : k + (1 + 3) ≤ R.cells) (hl : n + (3 + 3 * cap) ≤ R.slots)
    (r : ∀ T' h' a x0 x1 x2 kk comp, a = h.size → x0 = a + 1 → x1 = a + 2 → x2 = a + 3 → St p l e R s m args below meth c Z B own nm ml ret n0 T' h' (k + (1 + 3)) (n + (3 + 3 * cap)) → Ext h h' → Arv Z h' a kk (.array ty) 3 [.ref x0, .ref x1, .ref x2] .null → OvrA Z kk ty C → Exa Z h' a ad → Arv Z h' x0 comp ty zk [] dv → Arv Z h' x1 comp ty zk [] dv → Arv Z h' x2 comp ty zk [] dv → Exa Z h' x0 C → Exa Z h' x1 C → Exa Z h' x2 C → Go p e below s n0 Q kC kS (T'.setTop (mkF m (pc + 4) Ls (.ref a :: st)))) : Go p e below s n0 Q kC kS (T.setTop (mkF m pc Ls (.int zk :: .int 3 :: st))) := by
  subst hdv
  obtain ⟨⟨hx, hby, hZ, hown, q⟩, locs, X, eT, N⟩ := X
  obtain ⟨T', h', cA, comp, X', e', E', A', O', G', I', st'⟩ := gridM X hx hZ hown hC had w1 w2 w3 eT (g := mkF m pc Ls (.int zk :: .int 3 :: st)) rfl (by rw [hby]; exact hd) rfl (by decide) hk (xs := [h.size + 1 + 0, h.size + 1 + 1, h.size + 1 + 2]) (N := 3) rfl rfl hcap hb (by decide) hdf hdd hc hl
  exact (r T' h' _ _ _ _ cA comp rfl rfl rfl rfl ⟨⟨hx, hby, hZ, hown, q⟩, locs, X', e', N⟩ E' A' O' G' (Arv.new (I' 0 _ rfl).1 hk) (Arv.new (I' 1 _ rfl).1 hk) (Arv.new (I' 2 _ rfl).1 hk) (I' 0 _ rfl).2 (I' 1 _ rfl).2 (I' 2 _ rfl).2).st st'

theorem callS_ (X : St p l e R s m args below meth c Z B own nm ml ret n0 T h k n) {a0 : Array Value} {idx W pc : Nat} {Ls : Array Slot} {rest : List Value} {argsL : List Value} {y : MethodName} {bytes : ByteArray} {maxL : Nat} {rt : Option FieldType} {rm : Room} {Qc : Option Value → Heap → Prop} (hd : decode B pc = .ok (.invokestatic idx, 3)) (w1 : (Cond.methodLink own idx y).before a0 Z = true) (w2 : (Cond.static y).before a0 Z = true) (w3 : (Cond.initialized y.cls).before a0 Z = true) (w4 : (Cond.code y bytes maxL rt).before a0 Z = true)
    (hy : y.cls ≠ "java/lang/invoke/MethodHandle" ∧ y.cls ≠ "java/lang/invoke/VarHandle") (hM : Con l Z y [] bytes maxL rt rm argsL.toArray h n0 Qc) (hlen : ∀ sig, parseMethodDescriptor y.desc = some sig → argsL.length = sig.parameters.length) (hsz : Ls.size = ml) {stk : List Value} (hs : stk = argsL.reverse ++ rest)
    (hW : 2 * 0 + (rest.map fun v => v.category).sum ≤ W) (hf : rm.frames + 1 ≤ R.frames) (hl : W + (maxL + 11) + rm.locals ≤ R.locals) (hc : k + rm.cells ≤ R.cells) (hn : n + rm.slots ≤ R.slots)
    (r : ∀ T' h' v, St p l e R s m args below meth c Z B own nm ml ret n0 T' h' (k + rm.cells) (n + rm.slots) → Qc v h' → Go p e below s n0 Q kC kS (T'.setTop (mkF m (pc + 3) Ls (v.toList ++ rest)))) : Go p e below s n0 Q kC kS (T.setTop (mkF m pc Ls stk)) := by
  obtain ⟨⟨hx, hby, hZ, hown, hml, q⟩, locs, X, eT, N⟩ := X
  obtain ⟨v, vm1, ⟨T', L', k', n'⟩, -, X', ⟨Lc, ⟨hQ, N'⟩, l1, l2, l3⟩, st'⟩ := Jvm.LawKit.callS X hx (y := y) hown (mvT hZ w1) (mvT hZ w2) (mvT hZ w3) (mvT hZ w4) hy (backOf (Q := fun v h L => Qc v h ∧ Fr n0 L) hM hZ w4 w3 hf hl) (g := mkF m pc Ls stk) rfl (by rw [hml]; exact hsz) (argsL := argsL) (rest := rest) hlen hs hW (by rw [hby]; exact hd) (fun _ _ => ⟨rfl, eT, hc, hn⟩)
  dsimp only [Pt.U, Pt.locs, Pt.cells, Pt.slots] at X' l1 l2 l3 st' hQ
  subst l1 l2 l3
  exact (r T' T'.heap v ⟨⟨hx, hby, hZ, hown, hml, q⟩, _, X', rfl, Fr.app N N'⟩ hQ).st st'
theorem Go.tr {t t' : State} (r : Go p e below s n0 Q kC kS t') (q : Steps p.tables e below t t') : Go p e below s n0 Q kC kS t := r.st fun u kk => q.trans kk
theorem callI_ (X : St p l e R s m args below meth c Z B own nm ml ret n0 T h k n) {a0 : Array Value} {idx W pc : Nat} {Ls : Array Slot} {rest : List Value} {argsL : List Value} {a : Addr} {y : MethodName} {bytes : ByteArray} {maxL : Nat} {rm : Room} {Qc : Option Value → Heap → Prop} (hd : decode B pc = .ok (.invokespecial idx, 3)) (hin : y.name = "<init>") (w1 : (Cond.methodLink own idx y).before a0 Z = true) (w2 : (Cond.instanceMethod y).before a0 Z = true) (w3 : (Cond.initialized y.cls).before a0 Z = true) (w4 : (Cond.code y bytes maxL none).before a0 Z = true)
    (hy : y.cls ≠ "java/lang/invoke/MethodHandle" ∧ y.cls ≠ "java/lang/invoke/VarHandle") (hM : Con l Z y [] bytes maxL none rm (.ref a :: argsL).toArray h n0 Qc) (hlen : ∀ sig, parseMethodDescriptor y.desc = some sig → argsL.length = sig.parameters.length) (hsz : Ls.size = ml) {stk : List Value} (hs : stk = argsL.reverse ++ .ref a :: rest)
    (hW : 2 * 0 + (rest.map fun v => v.category).sum ≤ W) (hf : rm.frames + 1 ≤ R.frames) (hl : W + (maxL + 11) + rm.locals ≤ R.locals) (hc : k + rm.cells ≤ R.cells) (hn : n + rm.slots ≤ R.slots)
    (r : ∀ T' h' v, St p l e R s m args below meth c Z B own nm ml ret n0 T' h' (k + rm.cells) (n + rm.slots) → Qc v h' → Go p e below s n0 Q kC kS (T'.setTop (mkF m (pc + 3) Ls (v.toList ++ rest)))) : Go p e below s n0 Q kC kS (T.setTop (mkF m pc Ls stk)) := by
  obtain ⟨⟨hx, hby, hZ, hown, hml, q⟩, locs, X, eT, N⟩ := X
  obtain ⟨v, vm1, ⟨T', L', k', n'⟩, -, X', ⟨Lc, ⟨hQ, N'⟩, l1, l2, l3⟩, st'⟩ := X.specialBack hx (y := y) hin hown (mvT hZ w1) (mvT hZ w2) (mvT hZ w4) hy (backOf (Q := fun v h L => Qc v h ∧ Fr n0 L) hM hZ w4 w3 hf hl) (g := mkF m pc Ls stk) rfl (by rw [hml]; exact hsz) (Steps.refl _) (a := a) (argsL := argsL) (rest := rest) hlen hs hW (by rw [hby]; exact hd) (fun _ _ => ⟨rfl, eT, hc, hn⟩)
  dsimp only [Pt.U, Pt.locs, Pt.cells, Pt.slots] at X' l1 l2 l3 st' hQ
  subst l1 l2 l3
  exact (r T' T'.heap v ⟨⟨hx, hby, hZ, hown, hml, q⟩, _, X', rfl, Fr.app N N'⟩ hQ).tr st'
theorem callV_ (X : St p l e R s m args below meth c Z B own nm ml ret n0 T h k n) {a0 : Array Value} {idx W pc : Nat} {Ls : Array Slot} {rest : List Value} {argsL : List Value} {a : Addr} {C : String} {y z : MethodName} {bytes : ByteArray} {maxL : Nat} {rt : Option FieldType} {rm : Room} {Qc : Option Value → Heap → Prop} (hd : decode B pc = .ok (.invokevirtual idx, 3)) (w1 : (Cond.methodLink own idx y).before a0 Z = true) (w2 : (Cond.declares y).before a0 Z = true) (w5 : (Cond.selects C y z).before a0 Z = true) (w6 : (Cond.instanceMethod z).before a0 Z = true) (hzy : z = y) (w3 : (Cond.initialized z.cls).before a0 Z = true) (w4 : (Cond.code z bytes maxL rt).before a0 Z = true)
    (hy : y.cls ≠ "java/lang/invoke/MethodHandle" ∧ y.cls ≠ "java/lang/invoke/VarHandle") (E : Exa Z h a C) (hM : Con l Z z [] bytes maxL rt rm (.ref a :: argsL).toArray h n0 Qc) (hlen : ∀ sig, parseMethodDescriptor y.desc = some sig → argsL.length = sig.parameters.length) (hsz : Ls.size = ml) {stk : List Value} (hs : stk = argsL.reverse ++ .ref a :: rest)
    (hW : 2 * 0 + (rest.map fun v => v.category).sum ≤ W) (hf : rm.frames + 1 ≤ R.frames) (hl : W + (maxL + 11) + rm.locals ≤ R.locals) (hc : k + rm.cells ≤ R.cells) (hn : n + rm.slots ≤ R.slots)
    (r : ∀ T' h' v, St p l e R s m args below meth c Z B own nm ml ret n0 T' h' (k + rm.cells) (n + rm.slots) → Qc v h' → Go p e below s n0 Q kC kS (T'.setTop (mkF m (pc + 3) Ls (v.toList ++ rest)))) : Go p e below s n0 Q kC kS (T.setTop (mkF m pc Ls stk)) := by
  obtain ⟨⟨hx, hby, hZ, hown, hml, q⟩, locs, X, eT, N⟩ := X
  subst hzy
  obtain ⟨cq, kq, qa, qb, qc⟩ := isOf hZ eT E
  obtain ⟨v, vm1, ⟨T', L', k', n'⟩, -, X', ⟨Lc, ⟨hQ, N'⟩, l1, l2, l3⟩, st'⟩ := X.virtualBack hx (y := z) (z := z) hown (mvT hZ w1) (mvT hZ w2) (notFace_of_selects (args := #[]) (mvT hZ w5)) (mvT hZ w5) (mvT hZ w6) hy (backOf (Q := fun v h L => Qc v h ∧ Fr n0 L) hM hZ w4 w3 hf hl) qa qc (g := mkF m pc Ls stk) rfl (by rw [hml]; exact hsz) (Steps.refl _) (argsL := argsL) (rest := rest) hlen hs hW (by rw [hby]; exact hd) (fun _ _ => ⟨rfl, eT, hc, hn⟩)
  dsimp only [Pt.U, Pt.locs, Pt.cells, Pt.slots] at X' l1 l2 l3 st' hQ
  subst l1 l2 l3
  exact (r T' T'.heap v ⟨⟨hx, hby, hZ, hown, hml, q⟩, _, X', rfl, Fr.app N N'⟩ hQ).tr st'

theorem absD_ (X : St p l e R s m args below meth c Z B own nm ml ret n0 T h k n) {a0 : Array Value} {idx W pc : Nat} {Ls : Array Slot} {st : List Value} {x : UInt64} (hd : decode B pc = .ok (.invokestatic idx, 3)) (w1 : (Cond.methodLink own idx Jvm.Free.Fl.Abs.absDN).before a0 Z = true) (w2 : (Cond.static Jvm.Free.Fl.Abs.absDN).before a0 Z = true) (w3 : (Cond.initialized "java/lang/Math").before a0 Z = true) (w4 : (Cond.code Jvm.Free.Fl.Abs.absDN Jvm.Free.Fl.Abs.absDCode 2 (some .double)).before a0 Z = true) (nx : NoNaN64 x) (hlen : ∀ sig, parseMethodDescriptor "(D)D" = some sig → [Value.double x].length = sig.parameters.length) (hsz : Ls.size = ml)
    (hW : 2 * 0 + (st.map fun v => v.category).sum ≤ W) (hf : 1 ≤ R.frames) (hl : W + 13 ≤ R.locals) (hk : k ≤ R.cells) (hn : n ≤ R.slots)
    (r : ∀ T', St p l e R s m args below meth c Z B own nm ml ret n0 T' h k n → Go p e below s n0 Q kC kS (T'.setTop (mkF m (pc + 3) Ls (.double (x &&& 0x7fffffffffffffff) :: st)))) : Go p e below s n0 Q kC kS (T.setTop (mkF m pc Ls (.double x :: st))) := by
  obtain ⟨⟨hx, hby, hZ, hown, hml, q⟩, locs, X, eT, N⟩ := X
  obtain ⟨T', X', e', st'⟩ := natS X hx hZ hown w1 w2 w3 w4 (by decide) eT (W := W) (fun hc => Jvm.Free.Fl.Abs.absD_pays x hc hf hl) (g := mkF m pc Ls (.double x :: st)) rfl (by rw [hml]; exact hsz) (argsL := [.double x]) (rest := st) hlen rfl hW (by rw [hby]; exact hd) hk hn ⟨rfl, nx⟩ rfl
  exact (r T' ⟨⟨hx, hby, hZ, hown, hml, q⟩, locs, X', e', N⟩).st st'

theorem callP_ (X : St p l e R s m args below meth c Z B own nm ml ret n0 T h k n) {a0 : Array Value} {idx W pc : Nat} {Ls : Array Slot} {rest : List Value} {argsL : List Value} {a : Addr} {C D : String} {y z' z : MethodName} {bytes : ByteArray} {maxL : Nat} {rt : Option FieldType} {rm : Room} {Qc : Option Value → Heap → Prop} (hd : decode B pc = .ok (.invokevirtual idx, 3)) (w1 : (Cond.methodLink own idx y).before a0 Z = true) (w2 : (Cond.instanceMethod y).before a0 Z = true) (w5 : (Cond.selects D z' z).before a0 Z = true) (hz : z.cls = y.cls) (w6 : (Cond.privateMethod y).before a0 Z = true) (w3 : (Cond.initialized y.cls).before a0 Z = true) (w4 : (Cond.code y bytes maxL rt).before a0 Z = true)
    (hy : y.cls ≠ "java/lang/invoke/MethodHandle" ∧ y.cls ≠ "java/lang/invoke/VarHandle") (E : Exa Z h a C) (hM : Con l Z y [] bytes maxL rt rm (.ref a :: argsL).toArray h n0 Qc) (hlen : ∀ sig, parseMethodDescriptor y.desc = some sig → argsL.length = sig.parameters.length) (hsz : Ls.size = ml) {stk : List Value} (hs : stk = argsL.reverse ++ .ref a :: rest)
    (hW : 2 * 0 + (rest.map fun v => v.category).sum ≤ W) (hf : rm.frames + 1 ≤ R.frames) (hl : W + (maxL + 11) + rm.locals ≤ R.locals) (hc : k + rm.cells ≤ R.cells) (hn : n + rm.slots ≤ R.slots)
    (r : ∀ T' h' v, St p l e R s m args below meth c Z B own nm ml ret n0 T' h' (k + rm.cells) (n + rm.slots) → Qc v h' → Go p e below s n0 Q kC kS (T'.setTop (mkF m (pc + 3) Ls (v.toList ++ rest)))) : Go p e below s n0 Q kC kS (T.setTop (mkF m pc Ls stk)) := by
  obtain ⟨⟨hx, hby, hZ, hown, hml, q⟩, locs, X, eT, N⟩ := X
  obtain ⟨mk, methM, hnamed, hmethM, hstM, habM⟩ := Cond.instanceMethod_spec (args := args) (mvT hZ w2)
  obtain ⟨methM', cM, hmethM', -, -, -, -, -, -, hsigM⟩ := Cond.code_spec hnamed (mvT (args := args) hZ w4)
  cases hmethM.symm.trans hmethM'
  obtain ⟨c2, r2, m2, -, -, q3, -, kP, hkP, hkPi⟩ := Cond.selects_spec (args := args) (mvT hZ w5)
  have hcl : m2.cls = mk.cls := Option.some.inj ((findClass_of_methodNamed q3).symm.trans (by rw [hz]; exact findClass_of_methodNamed hnamed))
  rw [hcl] at hkP
  obtain ⟨cell, hcell, hobj⟩ := E.cell
  have hsel : selectMethod e.platform s.vm cell.cls mk = .method mk := selectMethod_private hmethM (Cond.privateMethod_at (mvP hZ w6 (args := args)) mk methM hnamed hmethM)
  obtain ⟨vm1, X1, step1⟩ := X.invokevirtual hx hown (mvT hZ w1) hnamed hmethM hstM hkP hkPi hy (a := a) (cell := cell) (by rw [eT]; exact hcell) hobj hsel hmethM habM hkP hkPi (g := mkF m pc Ls stk) rfl (argsL := argsL) (rest := rest) (hlen _ hsigM) hs (by rw [hby]; exact hd)
  obtain ⟨v, ⟨T', L', k', n'⟩, X', ⟨Lc, ⟨hQ, N'⟩, l1, l2, l3⟩, st'⟩ := (backOf (Q := fun v h L => Qc v h ∧ Fr n0 L) hM hZ w4 w3 hf hl) m meth c ⟨T.setVm vm1, locs, k, n⟩ { mkF m pc Ls stk with stack := rest } (.invokevirtual idx) mk (.ref a :: argsL).toArray X1 rfl (by rw [hml]; exact hsz) (by rw [hby]; exact hd) hW (X1.named hnamed) ⟨rfl, eT, hc, hn⟩
  dsimp only [Pt.U, Pt.locs, Pt.cells, Pt.slots] at X' l1 l2 l3 st' hQ
  subst l1 l2 l3
  exact (r T' T'.heap v ⟨⟨hx, hby, hZ, hown, hml, q⟩, _, X', rfl, Fr.app N N'⟩ hQ).tr ((step1 _ fun acts => by rw [doInvoke_state]; exact Steps.refl _).trans st')

theorem callSN_ (X : St p l e R s m args below meth c Z B own nm ml ret n0 T h k n) {a0 : Array Value} {host : String} {idx W pc : Nat} {Ls : Array Slot} {rest : List Value} {argsL : List Value} {y : MethodName} {bytes : ByteArray} {maxL : Nat} {rt : Option FieldType} {rm : Room} {Qc : Option Value → Heap → Prop} (hd : decode B pc = .ok (.invokestatic idx, 3)) (w1 : (Cond.methodLinkNest own idx y host).before a0 Z = true) (w2 : (Cond.static y).before a0 Z = true) (w3 : (Cond.initialized y.cls).before a0 Z = true) (w4 : (Cond.code y bytes maxL rt).before a0 Z = true)
    (hy : y.cls ≠ "java/lang/invoke/MethodHandle" ∧ y.cls ≠ "java/lang/invoke/VarHandle") (hM : Con l Z y [] bytes maxL rt rm argsL.toArray h n0 Qc) (hlen : ∀ sig, parseMethodDescriptor y.desc = some sig → argsL.length = sig.parameters.length) (hsz : Ls.size = ml) {stk : List Value} (hs : stk = argsL.reverse ++ rest)
    (hW : 2 * 0 + (rest.map fun v => v.category).sum ≤ W) (hf : rm.frames + 1 ≤ R.frames) (hl : W + (maxL + 11) + rm.locals ≤ R.locals) (hc : k + rm.cells ≤ R.cells) (hn : n + rm.slots ≤ R.slots)
    (r : ∀ T' h' v, St p l e R s m args below meth c Z B own nm ml ret n0 T' h' (k + rm.cells) (n + rm.slots) → Qc v h' → Go p e below s n0 Q kC kS (T'.setTop (mkF m (pc + 3) Ls (v.toList ++ rest)))) : Go p e below s n0 Q kC kS (T.setTop (mkF m pc Ls stk)) := by
  obtain ⟨⟨hx, hby, hZ, hown, hml, q⟩, locs, X, eT, N⟩ := X
  obtain ⟨v, vm1, ⟨T', L', k', n'⟩, -, X', ⟨Lc, ⟨hQ, N'⟩, l1, l2, l3⟩, st'⟩ := Jvm.RoadKit.callSN X hx (y := y) hown ((Cond.methodLinkNest_wide hZ w1 :) ) (mvT hZ w2) (mvT hZ w3) (mvT hZ w4) hy (backOf (Q := fun v h L => Qc v h ∧ Fr n0 L) hM hZ w4 w3 hf hl) (g := mkF m pc Ls stk) rfl (by rw [hml]; exact hsz) (argsL := argsL) (rest := rest) hlen hs hW (by rw [hby]; exact hd) (fun _ _ => ⟨rfl, eT, hc, hn⟩)
  dsimp only [Pt.U, Pt.locs, Pt.cells, Pt.slots] at X' l1 l2 l3 st' hQ
  subst l1 l2 l3
  exact (r T' T'.heap v ⟨⟨hx, hby, hZ, hown, hml, q⟩, _, X', rfl, Fr.app N N'⟩ hQ).tr st'

theorem signD_ (X : St p l e R s m args below meth c Z B own nm ml ret n0 T h k n) {a0 : Array Value} {idx W pc maxL : Nat} {bytes : ByteArray} {Ls : Array Slot} {st : List Value} {x : UInt64} (hd : decode B pc = .ok (.invokestatic idx, 3)) (w1 : (Cond.methodLink own idx Jvm.Free.NT.mathSignum64N).before a0 Z = true) (w2 : (Cond.static Jvm.Free.NT.mathSignum64N).before a0 Z = true) (w3 : (Cond.initialized "java/lang/Math").before a0 Z = true) (w4 : (Cond.code Jvm.Free.NT.mathSignum64N bytes maxL (some .double)).before a0 Z = true) (nx : NoNaN64 x) (hlen : ∀ sig, parseMethodDescriptor "(D)D" = some sig → [Value.double x].length = sig.parameters.length) (hsz : Ls.size = ml)
    (hW : 2 * 0 + (st.map fun v => v.category).sum ≤ W) (hf : 1 ≤ R.frames) (hl : W + (maxL + 11) ≤ R.locals) (hk : k ≤ R.cells) (hn : n ≤ R.slots)
    (r : ∀ T', St p l e R s m args below meth c Z B own nm ml ret n0 T' h k n → Go p e below s n0 Q kC kS (T'.setTop (mkF m (pc + 3) Ls (.double (Jvm.signum64 x) :: st)))) : Go p e below s n0 Q kC kS (T.setTop (mkF m pc Ls (.double x :: st))) := by
  obtain ⟨⟨hx, hby, hZ, hown, hml, q⟩, locs, X, eT, N⟩ := X
  obtain ⟨T', X', e', st'⟩ := natS X hx hZ hown w1 w2 w3 w4 (by decide) eT (W := W) (F := fun a' => a' = #[.double x] ∧ NoNaN64 x) (val := .double (Jvm.signum64 x)) (fun hc => by
    intro m' meth' c' A g ig mk a' X1 hg hsize hdg hW' hnamed ⟨_, _, ha', ha⟩
    obtain ⟨v, B', X2, ⟨hB, hv⟩, st2⟩ := (Jvm.Free.NT.Signum64.pays hc (mvT hZ w2) hf hl) m' meth' c' A g ig mk a' X1 hg hsize hdg hW' hnamed ⟨x, ha', Jvm.Free.Fl.Abs.dIsNaN_false ha⟩
    exact ⟨v, B', X2, ⟨hv x ⟨ha', Jvm.Free.Fl.Abs.dIsNaN_false ha⟩, hB⟩, st2⟩) (g := mkF m pc Ls (.double x :: st)) rfl (by rw [hml]; exact hsz) (argsL := [.double x]) (rest := st) hlen rfl hW (by rw [hby]; exact hd) hk hn ⟨rfl, nx⟩ rfl
  exact (r T' ⟨⟨hx, hby, hZ, hown, hml, q⟩, locs, X', e', N⟩).st st'
theorem nn_sign {x : UInt64} (h : NoNaN64 x) : NoNaN64 (Jvm.signum64 x) := by
  obtain ⟨o, ho⟩ := Jvm.Free.Fl.dcmp_of_noNaN h (b := 0) (by unfold NoNaN64; decide)
  cases o with
  | lt => rw [Jvm.FP.V.signum_neg ho]; unfold NoNaN64; decide
  | gt => rw [Jvm.FP.V.signum_pos ho]; unfold NoNaN64; decide
  | eq => rw [Jvm.FP.V.signum_zero ho]; exact h

theorem cpA_ (X : St p l e R s m args below meth c Z B own nm ml ret n0 T h k n) {a0 : Array Value} {idx W pc : Nat} {Ls : Array Slot} {rest : List Value} {a b : Addr} {ka kb : ClassId} {ty : FieldType} {z z' sp dp nn : Int32} {vs vd us : List Value} {dv dd : Value} (hd : decode B pc = .ok (.invokestatic idx, 3)) (w1 : (Cond.methodLink own idx Jvm.Stand.acN).before a0 Z = true) (w2 : (Cond.native Jvm.Stand.acN).before a0 Z = true) (w3 : (Cond.static Jvm.Stand.acN).before a0 Z = true) (w4 : (Cond.initialized "java/lang/System").before a0 Z = true)
    (A : Arv Z h a ka ty z vs dv) (V : Arv Z h b kb ty z' vd dd) (hty : refKind ty = false) (h1 : ¬ sp < 0) (h2 : ¬ dp < 0) (h3 : ¬ nn < 0) (h4 : sp.toNatClampNeg + nn.toNatClampNeg ≤ z.toNatClampNeg) (h5 : dp.toNatClampNeg + nn.toNatClampNeg ≤ z'.toNatClampNeg) (hus : us = (List.range nn.toNatClampNeg).map fun i => vs.getD (sp.toNatClampNeg + i) dv) (hl : dp.toNatClampNeg + nn.toNatClampNeg ≤ vd.length) (ge : n0 ≤ b) (hsz : Ls.size = ml)
    (hf : 1 ≤ R.frames) (hW : 2 * 0 + (rest.map fun v => v.category).sum ≤ W) (hlo : W + (nativeFrameWords "java/lang/System" "arraycopy" 5 + 11) ≤ R.locals)
    (r : ∀ T' h', St p l e R s m args below meth c Z B own nm ml ret n0 T' h' k n → Keep h h' [b] → Arv Z h' b kb ty z' (vd.take dp.toNatClampNeg ++ us ++ vd.drop (dp.toNatClampNeg + nn.toNatClampNeg)) dd → Go p e below s n0 Q kC kS (T'.setTop (mkF m (pc + 3) Ls rest))) : Go p e below s n0 Q kC kS (T.setTop (mkF m pc Ls (.int nn :: .int dp :: .ref b :: .int sp :: .ref a :: rest))) := by
  obtain ⟨⟨hx, hby, hZ, hown, hml, q⟩, locs, X, eT, N⟩ := X
  obtain ⟨T', h', L', X', e', N', K', V', st'⟩ := cpA X hx hZ hown w1 w2 w3 w4 eT A V (Or.inl ⟨rfl, hty⟩) h1 h2 h3 h4 h5 hus hl N ge (g := mkF m pc Ls (.int nn :: .int dp :: .ref b :: .int sp :: .ref a :: rest)) rfl (by rw [hml]; exact hsz) rfl (by rw [hby]; exact hd) hf hW hlo
  exact (r T' h' ⟨⟨hx, hby, hZ, hown, hml, q⟩, L', X', e', N'⟩ K' V').st st'
theorem clone_ (X : St p l e R s m args below meth c Z B own nm ml ret n0 T h k n) {a0 : Array Value} {ad : String} {idx W pc : Nat} {Ls : Array Slot} {rest : List Value} {a : Addr} {ka : ClassId} {ty : FieldType} {z : Int32} {vs : List Value} {dv : Value} (cap : Nat) (hd : decode B pc = .ok (.invokevirtual idx, 3)) (w1 : (Cond.methodLink own idx ⟨ad, "clone", "()Ljava/lang/Object;"⟩).before a0 Z = true) (w2 : (Cond.sameMethod ad "java/lang/Object" "clone" "()Ljava/lang/Object;").before a0 Z = true) (w3 : (Cond.native ⟨"java/lang/Object", "clone", "()Ljava/lang/Object;"⟩).before a0 Z = true)
    (w4 : (Cond.instanceMethod ⟨"java/lang/Object", "clone", "()Ljava/lang/Object;"⟩).before a0 Z = true) (w5 : (Cond.selects ad ⟨ad, "clone", "()Ljava/lang/Object;"⟩ ⟨"java/lang/Object", "clone", "()Ljava/lang/Object;"⟩).before a0 Z = true) (w6 : (Cond.castable ad "java/lang/Cloneable").before a0 Z = true)
    (F : Arv Z h a ka ty z vs dv) (E : Exa Z h a ad) (hsz : Ls.size = ml) (hf : 1 ≤ R.frames) (hW : 2 * 0 + (rest.map fun v => v.category).sum ≤ W) (hl : W + 14 ≤ R.locals) (hcap : z.toNatClampNeg ≤ cap) (hc : k + 1 ≤ R.cells) (hsl : n + cap ≤ R.slots)
    (r : ∀ T' h' b, b = h.size → St p l e R s m args below meth c Z B own nm ml ret n0 T' h' (k + 1) (n + cap) → Ext h h' → Arv Z h' b ka ty z vs dv → Exa Z h' b ad → Go p e below s n0 Q kC kS (T'.setTop (mkF m (pc + 3) Ls (.ref b :: rest)))) : Go p e below s n0 Q kC kS (T.setTop (mkF m pc Ls (.ref a :: rest))) := by
  obtain ⟨⟨hx, hby, hZ, hown, hml, q⟩, locs, X, eT, N⟩ := X
  obtain ⟨T', h', X', e', E', V', G', st'⟩ := cloneH X hx hZ hown w1 w2 w3 w4 w5 w6 eT F.arh E (g := mkF m pc Ls (.ref a :: rest)) rfl (by rw [hml]; exact hsz) rfl (by rw [hby]; exact hd) hf hW hl hcap hc hsl
  exact (r T' h' _ rfl ⟨⟨hx, hby, hZ, hown, hml, q⟩, locs, X', e', N⟩ E' V' G').st st'
theorem cast_ (X : St p l e R s m args below meth c Z B own nm ml ret n0 T h k n) {a0 : Array Value} {K : String} {idx pc : Nat} {Ls : Array Slot} {rest : List Value} {a : Addr} (hd : decode B pc = .ok (.checkcast idx, 3)) (w : (Cond.classLink own idx K).before a0 Z = true) (F : Ins Z h a K true)
    (r : ∀ T', St p l e R s m args below meth c Z B own nm ml ret n0 T' h k n → Go p e below s n0 Q kC kS (T'.setTop (mkF m (pc + 3) Ls (.ref a :: rest)))) : Go p e below s n0 Q kC kS (T.setTop (mkF m pc Ls (.ref a :: rest))) := by
  obtain ⟨⟨hx, hby, hZ, hown, q⟩, locs, X, eT, N⟩ := X
  obtain ⟨T', X', e', st'⟩ := castY X hx hZ hown w eT F (g := mkF m pc Ls (.ref a :: rest)) rfl rfl (by rw [hby]; exact hd)
  exact (r T' ⟨⟨hx, hby, hZ, hown, q⟩, locs, X', e', N⟩).st st'

theorem enter {y : MethodName} {ws : List Jvm.Cond} {rm : Room} {as : Array Value} {h0 : Heap} {Ls : Array Slot} {own nm : String} (hpl : plainFor y = true) (ho : y.cls = own) (hnm : y.name = nm) (hef : ∀ m, entryFrame m as ml = mkF m 0 Ls [])
    (body : ∀ p e s m below meth c T, St p l e rm s m as below meth c Z B own nm ml ret n0 T h0 0 0 → Go p e below s n0 Q rm.cells rm.slots (T.setTop (mkF m 0 Ls []))) : Con l Z y ws B ml ret rm as h0 n0 Q := by
  refine MetFree.of_bodySF hpl hisR ?_
  intro p e s m args below meth c s₁ Bd hml0 hP hK
  obtain ⟨rfl, hZ, hh⟩ := hP
  have X0 : Stand p l e rm s m _ below meth c s₁ [] 0 0 := Stand.of_body Bd
  have e0 : s₁.heap = h0 := by rw [← hh, Bd.state]; rfl
  rw [hef]
  exact body p e s m below meth c s₁ ⟨⟨Bd.exec, Bd.bytes, hZ, ho ▸ findClass_of_methodNamed Bd.named, hml0, Bd.returns, Bd.notSynchronized, (name_of_methodNamed Bd.named Bd.method).1.trans hnm⟩, [], X0, e0, Fr.nil n0⟩
theorem Con.imp {y : MethodName} {ws : List Jvm.Cond} {rm : Room} {as : Array Value} {h0 : Heap} {Q' : Option Value → Heap → Prop} (C : Con l Z y ws B ml ret rm as h0 n0 Q') (q : ∀ v h, Q' v h → Q v h) : Con l Z y ws B ml ret rm as h0 n0 Q := by
  intro p e ha hc hk s m args below hf happ hP hK
  obtain ⟨n, o, h1, h2, h3, v, L, h4, ⟨h5, h6⟩, h7⟩ := C p e ha hc hk s m args below hf happ hP hK
  exact ⟨n, o, h1, h2, h3, v, L, h4, ⟨q _ _ h5, h6⟩, h7⟩
end Kit
end Jvm.Own

namespace Jvm.Own
open Jvm.FP Jvm.FP.Core Jvm.Free.Fl
/-- one, in units of 2^-1074 -/
def U : Int := (one64 : Int)
theorem U_pos : 0 < U := by unfold U; have := one64_pos; omega
theorem U_pow : U = 2 ^ 1074 := by unfold U one64; exact Int.natCast_pow 2 1074
theorem U_lt {a b : Int} : a * U < b * U ↔ a < b := Int.mul_lt_mul_right U_pos
theorem U_le {a b : Int} : a * U ≤ b * U ↔ a ≤ b := Int.mul_le_mul_right U_pos
theorem U_eq {a b : Int} : a * U = b * U ↔ a = b := Int.mul_eq_mul_right_iff (by have := U_pos; omega)
theorem nn_0 : NoNaN64 0 := by unfold NoNaN64; decide
theorem nn_1 : NoNaN64 4607182418800017408 := by unfold NoNaN64; decide
theorem fin_0 : Fin64 0 := by unfold Fin64; decide
theorem fin_1 : Fin64 4607182418800017408 := by unfold Fin64; decide
theorem dz_0 : dz 0 = 0 := zval64_zero
theorem dz_int {i : Int} {v : UInt64} (h : DInt i v) : Fin64 v ∧ dz v = i * U := by
  refine ⟨fin64_core.mpr ?_, DInt_zval h⟩
  unfold DInt at h
  cases hv : val64 v with
  | nan => rw [hv] at h; exact h.elim
  | inf q => rw [hv] at h; exact h.elim
  | fin s c q => exact ⟨s, c, q, hv⟩
theorem dz_1 : dz 4607182418800017408 = U := by rw [(dz_int dint_one).2, Int.one_mul]
theorem i2d_v {x : Int32} {v : UInt64} (h : FP.i2d x = v) : Fin64 v ∧ dz v = x.toInt * U := h ▸ dz_int (i2d_int x)
theorem l2d_v {x : Int64} {v : UInt64} (h : FP.l2d x = v) (hx : x.toInt.natAbs ≤ 2 ^ 53) : Fin64 v ∧ dz v = x.toInt * U := h ▸ dz_int (l2d_int hx)
theorem fin_val {x : UInt64} (h : Fin64 x) : ∃ s c q, val64 x = .fin s c q := fin64_core.mp h
/-- the greatest magnitude, and one more -/
def Top : Nat := b64.tails * 2 ^ (b64.exps - 2)
theorem Top_pow : Top = 2 ^ 2098 := by unfold Top; rw [tails_b64, show b64.exps - 2 = 2046 from by decide, ← Nat.pow_add]
theorem fin_lt {x : UInt64} (h : Fin64 x) : (dz x).natAbs < Top := by
  have := (fin64_core.mp h).zval_lt
  show (signed _ _).natAbs < _
  rw [natAbs_signed]; exact this
theorem fin_of {x : UInt64} (h : NoNaN64 x) (q : (dz x).natAbs < Top) : Fin64 x := by
  refine fin64_core.mpr ?_
  cases hv : val64 x with
  | nan => exact absurd hv (val64_no.mp h)
  | inf s =>
    have : (dz x).natAbs = Top := by
      show (signed _ (zmag b64 (val64 x))).natAbs = _
      rw [natAbs_signed, hv]; rfl
    omega
  | fin s c q => exact ⟨s, c, q, hv⟩
/-- a number of at most 53 digits, at any place within reach, is a double -/
theorem rep (k : Int) (j : Nat) (hk : k.natAbs < 2 ^ 53) (hj : j ≤ 2040) : ∃ V : UInt64, Fin64 V ∧ dz V = k * 2 ^ j := by
  obtain ⟨c', q', h1, h2⟩ := round_exact good_b64 (decide (k < 0)) (c := k.natAbs) (q := b64.qmin + (j : Int)) hk (by omega) (by
    have : b64.qmax = b64.qmin + 2045 := by decide
    omega)
  have hf : Core.fits b64 (.fin (decide (k < 0)) c' q') := h1 ▸ round_fits good_b64 _
  refine ⟨of64 (.fin (decide (k < 0)) c' q'), fin64_core.mpr ⟨_, _, _, val64_of64 hf⟩, ?_⟩
  show zval b64 (val64 _) = _
  rw [val64_of64 hf]
  show signed _ (inUnits c' q' b64.qmin) = _
  rw [h2]
  unfold inUnits
  rw [show (b64.qmin + (j : Int) - b64.qmin).toNat = j by omega, signed_mul, show ((2 ^ j : Nat) : Int) = 2 ^ j from Int.natCast_pow 2 j]
  congr 1
  unfold signed
  by_cases q : k < 0 <;> simp [q, sgn] <;> omega
theorem repU (k : Int) (j : Nat) (hk : k.natAbs < 2 ^ 53) (hj : j ≤ 1074) : ∃ V : UInt64, Fin64 V ∧ dz V * 2 ^ j = k * U := by
  obtain ⟨V, h1, h2⟩ := rep k (1074 - j) hk (by omega)
  refine ⟨V, h1, ?_⟩
  rw [h2, Int.mul_assoc, ← Int.pow_add, show 1074 - j + j = 1074 by omega, U_pow]
/-! sums -/
theorem dadd_le {a b V : UInt64} (fa : Fin64 a) (fb : Fin64 b) (nV : NoNaN64 V) (h : dz a + dz b ≤ dz V) : dz (FP.dadd a b) ≤ dz V := by
  show zval b64 (val64 (Core.dadd a b)) ≤ _
  rw [val64_dadd]
  exact sum_le good_b64 (fin_val fa) (fin_val fb) (val64_fits a) (val64_fits b) (val64_fits V) (nn_val nV) h
theorem dadd_ge {a b V : UInt64} (fa : Fin64 a) (fb : Fin64 b) (nV : NoNaN64 V) (h : dz V ≤ dz a + dz b) : dz V ≤ dz (FP.dadd a b) := by
  show _ ≤ zval b64 (val64 (Core.dadd a b))
  rw [val64_dadd]
  exact sum_ge good_b64 (fin_val fa) (fin_val fb) (val64_fits a) (val64_fits b) (val64_fits V) (nn_val nV) h
theorem neg_fin {d : Datum} (h : ∃ s c q, d = .fin s c q) : ∃ s c q, negate d = .fin s c q := by
  obtain ⟨s, c, q, rfl⟩ := h; exact ⟨_, _, _, rfl⟩
theorem dsub_le {a b V : UInt64} (fa : Fin64 a) (fb : Fin64 b) (nV : NoNaN64 V) (h : dz a - dz b ≤ dz V) : dz (FP.dsub a b) ≤ dz V := by
  show zval b64 (val64 (Core.dsub a b)) ≤ _
  rw [val64_dsub]
  refine sum_le good_b64 (fin_val fa) (neg_fin (fin_val fb)) (val64_fits a) (negate_fits (val64_fits b)) (val64_fits V) (nn_val nV) ?_
  rw [zval_negate]; exact h
theorem dsub_ge {a b V : UInt64} (fa : Fin64 a) (fb : Fin64 b) (nV : NoNaN64 V) (h : dz V ≤ dz a - dz b) : dz V ≤ dz (FP.dsub a b) := by
  show _ ≤ zval b64 (val64 (Core.dsub a b))
  rw [val64_dsub]
  refine sum_ge good_b64 (fin_val fa) (neg_fin (fin_val fb)) (val64_fits a) (negate_fits (val64_fits b)) (val64_fits V) (nn_val nV) ?_
  rw [zval_negate]; exact h
/-- a sum that is a double is exact -/
theorem dadd_x {a b v V : UInt64} (e : FP.dadd a b = v) (fa : Fin64 a) (fb : Fin64 b) (fV : Fin64 V) (h : dz a + dz b = dz V) : Fin64 v ∧ dz v = dz a + dz b := by
  subst e
  have q : dz (FP.dadd a b) = dz a + dz b := by
    have h1 := dadd_le fa fb fV.noNaN (Int.le_of_eq h)
    have h2 := dadd_ge fa fb fV.noNaN (Int.le_of_eq h.symm)
    omega
  exact ⟨fin_of (dadd_out fa.noNaN fb) (by rw [q, h]; exact fin_lt fV), q⟩
theorem dsub_x {a b v V : UInt64} (e : FP.dsub a b = v) (fa : Fin64 a) (fb : Fin64 b) (fV : Fin64 V) (h : dz a - dz b = dz V) : Fin64 v ∧ dz v = dz a - dz b := by
  subst e
  have q : dz (FP.dsub a b) = dz a - dz b := by
    have h1 := dsub_le fa fb fV.noNaN (Int.le_of_eq h)
    have h2 := dsub_ge fa fb fV.noNaN (Int.le_of_eq h.symm)
    omega
  exact ⟨fin_of (dsub_out fa.noNaN fb) (by rw [q, h]; exact fin_lt fV), q⟩
/-! products -/
theorem zval_fin (f : Fmt) (s : Bool) (c : Nat) (q : Int) : zval f (.fin s c q) = signed s (inUnits c q f.qmin) := rfl
theorem signed_xor' (s t : Bool) (c d : Nat) : signed (s != t) (c * d) = signed s c * signed t d := signed_xor s t c d
theorem pow_two_qmin : ((2 ^ (b64.qmin - 2 * b64.qmin).toNat : Nat) : Int) = U := by
  unfold U; rw [← pow_qmin64]; rfl
theorem dmul_le {a b V : UInt64} (fa : Fin64 a) (fb : Fin64 b) (nV : NoNaN64 V) (h : dz a * dz b ≤ dz V * U) : dz (FP.dmul a b) ≤ dz V := by
  obtain ⟨s, c, q, ha⟩ := fin_val fa
  obtain ⟨t, d, r, hb⟩ := fin_val fb
  have fa' := val64_fits a
  have fb' := val64_fits b
  unfold dz at h ⊢
  show zval b64 (val64 (Core.dmul a b)) ≤ _
  rw [val64_dmul]
  rw [ha] at fa' h ⊢
  rw [hb] at fb' h ⊢
  obtain ⟨h1, h2, h3⟩ := product_units fa' fb'
  rw [h1]
  refine zval_round_le good_b64 (val64_fits V) (nn_val nV) (e0 := 2 * b64.qmin) (by decide) h2 ?_
  rw [h3, pow_two_qmin, signed_xor']
  exact h
theorem dmul_ge {a b V : UInt64} (fa : Fin64 a) (fb : Fin64 b) (nV : NoNaN64 V) (h : dz V * U ≤ dz a * dz b) : dz V ≤ dz (FP.dmul a b) := by
  obtain ⟨s, c, q, ha⟩ := fin_val fa
  obtain ⟨t, d, r, hb⟩ := fin_val fb
  have fa' := val64_fits a
  have fb' := val64_fits b
  unfold dz at h ⊢
  show _ ≤ zval b64 (val64 (Core.dmul a b))
  rw [val64_dmul]
  rw [ha] at fa' h ⊢
  rw [hb] at fb' h ⊢
  obtain ⟨h1, h2, h3⟩ := product_units fa' fb'
  rw [h1]
  refine zval_round_ge good_b64 (val64_fits V) (nn_val nV) (e0 := 2 * b64.qmin) (by decide) h2 ?_
  rw [h3, pow_two_qmin, signed_xor']
  exact h
theorem dmul_x {a b v V : UInt64} (e : FP.dmul a b = v) (fa : Fin64 a) (fb : Fin64 b) (fV : Fin64 V) (h : dz a * dz b = dz V * U) : Fin64 v ∧ dz v = dz V := by
  subst e
  have q : dz (FP.dmul a b) = dz V := by
    have h1 := dmul_le fa fb fV.noNaN (Int.le_of_eq h)
    have h2 := dmul_ge fa fb fV.noNaN (Int.le_of_eq h.symm)
    omega
  exact ⟨fin_of (dmul_out fa fb) (by rw [q]; exact fin_lt fV), q⟩
/-! quotients -/
theorem nz_of {b : UInt64} (h : dz b ≠ 0) : Nz64 b := nz64_core.mpr fun ⟨s, q, e⟩ => h (by
  show zval b64 (val64 b) = 0
  rw [e, zval_fin]; unfold inUnits; rw [Nat.zero_mul]; exact signed_zero s)
theorem quo_mag {s t : Bool} {c d : Nat} {q r : Int} (hx : Core.fits b64 (.fin s c q)) (hy : Core.fits b64 (.fin t d r)) :
    inUnits c (q - r) (2 * b64.qmin - r) = zmag b64 (.fin s c q) * one64 ∧ 2 ^ (b64.qmin - (2 * b64.qmin - r)).toNat * d = zmag b64 (.fin t d r) := by
  have h1 := hx.2.1
  have h2 := hy.2.1
  have hq : b64.qmin = -1074 := qmin_b64
  constructor
  · rw [← pow_qmin64]
    show c * _ = c * _ * _
    rw [Nat.mul_assoc, ← Nat.pow_add]; congr 2; omega
  · show _ = d * _
    rw [Nat.mul_comm]; congr 2; omega
theorem ddiv_val {a b : UInt64} {s t : Bool} {c d : Nat} {q r : Int} (ha : val64 a = .fin s c q) (hb : val64 b = .fin t d r) (hd : d ≠ 0) : val64 (FP.ddiv a b) = roundRatio b64 (s != t) c d (q - r) := by
  show val64 (Core.ddiv a b) = _
  rw [val64_ddiv, ha, hb]; simp only [quotient, if_neg hd]
theorem ddiv_zm {a b : UInt64} (fa : Fin64 a) (fb : Fin64 b) (hb : dz b ≠ 0) :
    sgn (val64 (FP.ddiv a b)) = (sgn (val64 a) != sgn (val64 b)) ∧
    (∀ V : UInt64, NoNaN64 V → zmag b64 (val64 a) * one64 ≤ zmag b64 (val64 V) * zmag b64 (val64 b) → zmag b64 (val64 (FP.ddiv a b)) ≤ zmag b64 (val64 V)) ∧
    (∀ V : UInt64, zmag b64 (val64 V) * zmag b64 (val64 b) ≤ zmag b64 (val64 a) * one64 → zmag b64 (val64 V) ≤ zmag b64 (val64 (FP.ddiv a b))) := by
  obtain ⟨s, c, q, ha⟩ := fin_val fa
  obtain ⟨t, d, r, hb'⟩ := fin_val fb
  have fa' := val64_fits a
  have fb' := val64_fits b
  rw [ha] at fa'
  rw [hb'] at fb'
  have hd : d ≠ 0 := by
    rintro rfl
    apply hb
    show zval b64 (val64 b) = 0
    rw [hb', zval_fin]; unfold inUnits; rw [Nat.zero_mul]; exact signed_zero t
  have hv := ddiv_val ha hb' hd
  obtain ⟨e1, e2⟩ := quo_mag fa' fb'
  have hq1 := fa'.2.1
  have hq2 := fb'.2.1
  have hqm : b64.qmin = -1074 := qmin_b64
  refine ⟨?_, fun V nV h => ?_, fun V h => ?_⟩
  · rw [hv, sgn_roundRatio, ha, hb']; rfl
  · rw [hv]
    refine zmag_roundRatio_le good_b64 (by omega) (val64_fits V) (nn_val nV) (e0 := 2 * b64.qmin - r) (by omega) (by omega) ?_
    rw [e1, Nat.mul_assoc, e2]
    rw [ha, hb'] at h
    exact h
  · rw [hv]
    refine zmag_roundRatio_ge good_b64 (by omega) (val64_fits V) (e0 := 2 * b64.qmin - r) (by omega) (by omega) ?_
    rw [e1, Nat.mul_assoc, e2]
    rw [ha, hb'] at h
    exact h
theorem dz_def (x : UInt64) : dz x = signed (sgn (val64 x)) (zmag b64 (val64 x)) := rfl
theorem ddiv_le {a b V : UInt64} (fa : Fin64 a) (fb : Fin64 b) (hb : 0 < dz b) (nV : NoNaN64 V) (h : dz a * U ≤ dz V * dz b) : dz (FP.ddiv a b) ≤ dz V := by
  obtain ⟨h1, h2, h3⟩ := ddiv_zm fa fb (by omega)
  have h2 := h2 V nV
  have h3 := h3 V
  have hU : U = (one64 : Int) := rfl
  rw [dz_def (FP.ddiv a b), h1]
  rw [hU] at h
  rw [dz_def V] at h ⊢
  rw [dz_def a] at h
  rw [dz_def b] at h hb
  have p1 := one64_pos
  generalize zmag b64 (val64 (FP.ddiv a b)) = R at *
  generalize zmag b64 (val64 V) = v at *
  generalize zmag b64 (val64 a) = x at *
  generalize zmag b64 (val64 b) = y at *
  generalize sgn (val64 a) = sa at *
  generalize sgn (val64 b) = sb at *
  generalize sgn (val64 V) = sv at *
  cases sb with
  | true => simp only [signed, if_true] at hb; omega
  | false =>
    simp only [signed, Bool.false_eq_true, if_false] at hb h ⊢
    have key : signed sv v * (y : Int) = signed sv (v * y) := (signed_mul sv v y).symm
    have key2 : signed sa x * (one64 : Int) = signed sa (x * one64) := (signed_mul sa x one64).symm
    have yp : 0 < y := by omega
    change signed sa x * (one64 : Int) ≤ signed sv v * (y : Int) at h
    change signed (sa != false) R ≤ signed sv v
    rw [key, key2] at h
    have z1 : x * one64 = 0 → x = 0 := fun e => (Nat.mul_eq_zero.mp e).resolve_right (by omega)
    have z2 : v * y = 0 → v = 0 := fun e => (Nat.mul_eq_zero.mp e).resolve_right (by omega)
    have z3 : v = 0 → v * y = 0 := fun e => by rw [e, Nat.zero_mul]
    have z4 : x = 0 → x * one64 = 0 := fun e => by rw [e, Nat.zero_mul]
    generalize v * y = vy at *
    generalize x * one64 = xo at *
    cases sa <;> cases sv <;> simp only [signed, Bool.bne_false, Bool.false_eq_true, if_true, if_false] at h ⊢
    · have := h2 (by omega); omega
    · have := h2 (by omega); omega
    · omega
    · have := h3 (by omega); omega
theorem ddiv_ge {a b V : UInt64} (fa : Fin64 a) (fb : Fin64 b) (hb : 0 < dz b) (nV : NoNaN64 V) (h : dz V * dz b ≤ dz a * U) : dz V ≤ dz (FP.ddiv a b) := by
  obtain ⟨h1, h2, h3⟩ := ddiv_zm fa fb (by omega)
  have h2 := h2 V nV
  have h3 := h3 V
  have hU : U = (one64 : Int) := rfl
  rw [dz_def (FP.ddiv a b), h1]
  rw [hU] at h
  rw [dz_def V] at h ⊢
  rw [dz_def a] at h
  rw [dz_def b] at h hb
  have p1 := one64_pos
  generalize zmag b64 (val64 (FP.ddiv a b)) = R at *
  generalize zmag b64 (val64 V) = v at *
  generalize zmag b64 (val64 a) = x at *
  generalize zmag b64 (val64 b) = y at *
  generalize sgn (val64 a) = sa at *
  generalize sgn (val64 b) = sb at *
  generalize sgn (val64 V) = sv at *
  cases sb with
  | true => simp only [signed, if_true] at hb; omega
  | false =>
    simp only [signed, Bool.false_eq_true, if_false] at hb h ⊢
    have key : signed sv v * (y : Int) = signed sv (v * y) := (signed_mul sv v y).symm
    have key2 : signed sa x * (one64 : Int) = signed sa (x * one64) := (signed_mul sa x one64).symm
    have yp : 0 < y := by omega
    change signed sv v * (y : Int) ≤ signed sa x * (one64 : Int) at h
    change signed sv v ≤ signed (sa != false) R
    rw [key, key2] at h
    have z1 : x * one64 = 0 → x = 0 := fun e => (Nat.mul_eq_zero.mp e).resolve_right (by omega)
    have z2 : v * y = 0 → v = 0 := fun e => (Nat.mul_eq_zero.mp e).resolve_right (by omega)
    have z3 : v = 0 → v * y = 0 := fun e => by rw [e, Nat.zero_mul]
    have z4 : x = 0 → x * one64 = 0 := fun e => by rw [e, Nat.zero_mul]
    generalize v * y = vy at *
    generalize x * one64 = xo at *
    cases sa <;> cases sv <;> simp only [signed, Bool.bne_false, Bool.false_eq_true, if_true, if_false] at h ⊢
    · have := h3 (by omega); omega
    · omega
    · have := h2 (by omega); omega
    · have := h2 (by omega); omega
theorem ddiv_nn {a b : UInt64} (fa : Fin64 a) (fb : Fin64 b) (hb : dz b ≠ 0) : NoNaN64 (FP.ddiv a b) := ddiv_out fa.noNaN fb (nz_of hb)
theorem ddiv_x {a b v V : UInt64} (e : FP.ddiv a b = v) (fa : Fin64 a) (fb : Fin64 b) (hb : 0 < dz b) (fV : Fin64 V) (h : dz a * U = dz V * dz b) : Fin64 v ∧ dz v = dz V := by
  subst e
  have q : dz (FP.ddiv a b) = dz V := by
    have h1 := ddiv_le fa fb hb fV.noNaN (Int.le_of_eq h)
    have h2 := ddiv_ge fa fb hb fV.noNaN (Int.le_of_eq h.symm)
    omega
  exact ⟨fin_of (ddiv_nn fa fb (by omega)) (by rw [q]; exact fin_lt fV), q⟩
/-! the sign turned -/
theorem xor_top (a : UInt64) : a.toNat = (FP.dneg a).toNat + 2 ^ 63 ∨ (FP.dneg a).toNat = a.toNat + 2 ^ 63 := by
  have hlt := a.toNat_lt
  have e : (FP.dneg a).toNat = a.toNat ^^^ 2 ^ 63 := by rw [dneg_xor, UInt64.toNat_xor]; rfl
  have hd : (FP.dneg a).toNat % 2 ^ 63 = a.toNat % 2 ^ 63 := by
    rw [e]
    apply Nat.eq_of_testBit_eq; intro i
    simp only [Nat.testBit_mod_two_pow, Nat.testBit_xor, Nat.testBit_two_pow]
    by_cases q : i < 63
    · have : ¬ (63 = i) := by omega
      simp [q, this]
    · simp [q]
  have hb : (FP.dneg a).toNat.testBit 63 = !(a.toNat.testBit 63) := by
    rw [e, Nat.testBit_xor, Nat.testBit_two_pow_self]; simp
  have hl2 : (FP.dneg a).toNat < 2 ^ 64 := (FP.dneg a).toNat_lt
  generalize (FP.dneg a).toNat = y at *
  generalize a.toNat = x at *
  simp only [Nat.testBit, Nat.shiftRight_eq_div_pow, Nat.and_comm 1, Nat.and_one_is_mod, bne_iff_ne] at hb
  by_cases q : x < 2 ^ 63
  · right
    have h1 : x / 2 ^ 63 = 0 := Nat.div_eq_of_lt q
    have h2 : y / 2 ^ 63 ≠ 0 := by
      intro z; rw [h1, z] at hb; simp at hb
    have h3 : ¬ y < 2 ^ 63 := fun z => h2 (Nat.div_eq_of_lt z)
    omega
  · left
    have h1 : x / 2 ^ 63 = 1 := by omega
    have h3 : y < 2 ^ 63 := by
      refine Nat.lt_of_not_le fun z => ?_
      have : y / 2 ^ 63 = 1 := by omega
      rw [h1, this] at hb; simp at hb
    omega
theorem dneg_val (a : UInt64) : val64 (FP.dneg a) = negate (val64 a) := val64_neg_bits (xor_top a)
theorem dz_neg (a : UInt64) : dz (FP.dneg a) = -dz a := by unfold dz; rw [dneg_val, zval_negate]
theorem nn_neg {a : UInt64} (h : NoNaN64 a) : NoNaN64 (FP.dneg a) := val64_no.mpr (by rw [dneg_val]; exact negate_ne_nan (val64_no.mp h))
theorem fin_neg {a : UInt64} (h : Fin64 a) : Fin64 (FP.dneg a) := fin_of (nn_neg h.noNaN) (by rw [dz_neg, Int.natAbs_neg]; exact fin_lt h)
end Jvm.Own
namespace Jvm.Own
open Jvm.FP Jvm.FP.Core Jvm.Free.Fl
theorem p2_pos (j : Nat) : (0 : Int) < 2 ^ j := Int.pow_pos (by decide)
/-! against k / 2^j: what is at most (at least) that rounds to at most (at least) that -/
theorem quo_le {a b v : UInt64} {p q : Int} (e : FP.ddiv a b = v) (fa : Fin64 a) (fb : Fin64 b) (ha : dz a = p * U) (hb : dz b = q * U) (hq : 0 < q) (k : Int) (j : Nat) (hk : k.natAbs < 2 ^ 53) (hj : j ≤ 1074) (h : p * 2 ^ j ≤ k * q) : dz v * 2 ^ j ≤ k * U := by
  obtain ⟨V, fV, hV⟩ := repU k j hk hj
  have hU := U_pos
  have hp := p2_pos j
  have hbp : 0 < dz b := by rw [hb]; exact Int.mul_pos hq hU
  have key : dz a * U ≤ dz V * dz b := by
    refine Int.le_of_mul_le_mul_right ?_ hp
    rw [ha, hb, show p * U * U * 2 ^ j = p * 2 ^ j * (U * U) by generalize U = u; ac_rfl, show dz V * (q * U) * 2 ^ j = dz V * 2 ^ j * (q * U) by generalize U = u; ac_rfl, hV, show k * U * (q * U) = k * q * (U * U) by generalize U = u; ac_rfl]
    exact Int.mul_le_mul_of_nonneg_right h (Int.le_of_lt (Int.mul_pos hU hU))
  rw [← hV, ← e]
  exact Int.mul_le_mul_of_nonneg_right (ddiv_le fa fb hbp fV.noNaN key) (Int.le_of_lt hp)
theorem quo_ge {a b v : UInt64} {p q : Int} (e : FP.ddiv a b = v) (fa : Fin64 a) (fb : Fin64 b) (ha : dz a = p * U) (hb : dz b = q * U) (hq : 0 < q) (k : Int) (j : Nat) (hk : k.natAbs < 2 ^ 53) (hj : j ≤ 1074) (h : k * q ≤ p * 2 ^ j) : k * U ≤ dz v * 2 ^ j := by
  obtain ⟨V, fV, hV⟩ := repU k j hk hj
  have hU := U_pos
  have hp := p2_pos j
  have hbp : 0 < dz b := by rw [hb]; exact Int.mul_pos hq hU
  have key : dz V * dz b ≤ dz a * U := by
    refine Int.le_of_mul_le_mul_right ?_ hp
    rw [ha, hb, show p * U * U * 2 ^ j = p * 2 ^ j * (U * U) by generalize U = u; ac_rfl, show dz V * (q * U) * 2 ^ j = dz V * 2 ^ j * (q * U) by generalize U = u; ac_rfl, hV, show k * U * (q * U) = k * q * (U * U) by generalize U = u; ac_rfl]
    exact Int.mul_le_mul_of_nonneg_right h (Int.le_of_lt (Int.mul_pos hU hU))
  rw [← hV, ← e]
  exact Int.mul_le_mul_of_nonneg_right (ddiv_ge fa fb hbp fV.noNaN key) (Int.le_of_lt hp)
theorem Top_U : (2 : Int) ^ 1000 * U < (Top : Int) := by
  rw [U_pow, ← Int.pow_add, Top_pow, show ((2 ^ 2098 : Nat) : Int) = 2 ^ 2098 from Int.natCast_pow 2 2098]
  exact Int.pow_lt_pow_of_lt (by decide) (by decide)
theorem fin_bd {v : UInt64} (n : NoNaN64 v) (h1 : -(2 ^ 1000 * U) ≤ dz v) (h2 : dz v ≤ 2 ^ 1000 * U) : Fin64 v := fin_of n (by have := Top_U; omega)
theorem add_le {a b v : UInt64} (e : FP.dadd a b = v) (fa : Fin64 a) (fb : Fin64 b) (k : Int) (j : Nat) (hk : k.natAbs < 2 ^ 53) (hj : j ≤ 1074) (h : (dz a + dz b) * 2 ^ j ≤ k * U) : dz v * 2 ^ j ≤ k * U := by
  obtain ⟨V, fV, hV⟩ := repU k j hk hj
  have hp := p2_pos j
  rw [← hV] at h ⊢
  rw [← e]
  exact Int.mul_le_mul_of_nonneg_right (dadd_le fa fb fV.noNaN (Int.le_of_mul_le_mul_right h hp)) (Int.le_of_lt hp)
theorem add_ge {a b v : UInt64} (e : FP.dadd a b = v) (fa : Fin64 a) (fb : Fin64 b) (k : Int) (j : Nat) (hk : k.natAbs < 2 ^ 53) (hj : j ≤ 1074) (h : k * U ≤ (dz a + dz b) * 2 ^ j) : k * U ≤ dz v * 2 ^ j := by
  obtain ⟨V, fV, hV⟩ := repU k j hk hj
  have hp := p2_pos j
  rw [← hV] at h ⊢
  rw [← e]
  exact Int.mul_le_mul_of_nonneg_right (dadd_ge fa fb fV.noNaN (Int.le_of_mul_le_mul_right h hp)) (Int.le_of_lt hp)
theorem sub_le {a b v : UInt64} (e : FP.dsub a b = v) (fa : Fin64 a) (fb : Fin64 b) (k : Int) (j : Nat) (hk : k.natAbs < 2 ^ 53) (hj : j ≤ 1074) (h : (dz a - dz b) * 2 ^ j ≤ k * U) : dz v * 2 ^ j ≤ k * U := by
  obtain ⟨V, fV, hV⟩ := repU k j hk hj
  have hp := p2_pos j
  rw [← hV] at h ⊢
  rw [← e]
  exact Int.mul_le_mul_of_nonneg_right (dsub_le fa fb fV.noNaN (Int.le_of_mul_le_mul_right h hp)) (Int.le_of_lt hp)
theorem sub_ge {a b v : UInt64} (e : FP.dsub a b = v) (fa : Fin64 a) (fb : Fin64 b) (k : Int) (j : Nat) (hk : k.natAbs < 2 ^ 53) (hj : j ≤ 1074) (h : k * U ≤ (dz a - dz b) * 2 ^ j) : k * U ≤ dz v * 2 ^ j := by
  obtain ⟨V, fV, hV⟩ := repU k j hk hj
  have hp := p2_pos j
  rw [← hV] at h ⊢
  rw [← e]
  exact Int.mul_le_mul_of_nonneg_right (dsub_ge fa fb fV.noNaN (Int.le_of_mul_le_mul_right h hp)) (Int.le_of_lt hp)
/-- a sum, a difference of dyadics that is one of at most 53 digits is exact -/
theorem add_x {a b v : UInt64} (e : FP.dadd a b = v) (fa : Fin64 a) (fb : Fin64 b) (k : Int) (j : Nat) (hk : k.natAbs < 2 ^ 53) (hj : j ≤ 1074) (h : (dz a + dz b) * 2 ^ j = k * U) : Fin64 v ∧ dz v = dz a + dz b := by
  obtain ⟨V, fV, hV⟩ := repU k j hk hj
  exact dadd_x e fa fb fV (Int.eq_of_mul_eq_mul_right (by have := p2_pos j; omega) (h.trans hV.symm))
theorem sub_x {a b v : UInt64} (e : FP.dsub a b = v) (fa : Fin64 a) (fb : Fin64 b) (k : Int) (j : Nat) (hk : k.natAbs < 2 ^ 53) (hj : j ≤ 1074) (h : (dz a - dz b) * 2 ^ j = k * U) : Fin64 v ∧ dz v = dz a - dz b := by
  obtain ⟨V, fV, hV⟩ := repU k j hk hj
  exact dsub_x e fa fb fV (Int.eq_of_mul_eq_mul_right (by have := p2_pos j; omega) (h.trans hV.symm))
theorem quo_x {a b v : UInt64} {p q : Int} (e : FP.ddiv a b = v) (fa : Fin64 a) (fb : Fin64 b) (ha : dz a = p * U) (hb : dz b = q * U) (hq : 0 < q) (k : Int) (j : Nat) (hk : k.natAbs < 2 ^ 53) (hj : j ≤ 1074) (h : p * 2 ^ j = k * q) : Fin64 v ∧ dz v * 2 ^ j = k * U := by
  obtain ⟨V, fV, hV⟩ := repU k j hk hj
  have h1 := quo_le e fa fb ha hb hq k j hk hj (Int.le_of_eq h)
  have h2 := quo_ge e fa fb ha hb hq k j hk hj (Int.le_of_eq h.symm)
  have h3 : dz v * 2 ^ j = k * U := by omega
  have h4 : dz v = dz V := Int.eq_of_mul_eq_mul_right (by have := p2_pos j; omega) (h3.trans hV.symm)
  refine ⟨fin_of ?_ (by rw [h4]; exact fin_lt fV), h3⟩
  rw [← e]
  exact ddiv_nn fa fb (by rw [hb]; have := Int.mul_pos hq U_pos; omega)
theorem quo_nn {a b v : UInt64} {q : Int} (e : FP.ddiv a b = v) (fa : Fin64 a) (fb : Fin64 b) (hb : dz b = q * U) (hq : 0 < q) : NoNaN64 v := by
  rw [← e]; exact ddiv_nn fa fb (by rw [hb]; have := Int.mul_pos hq U_pos; omega)
end Jvm.Own
namespace Jvm.Own
open Jvm.FP Jvm.FP.Core Jvm.Free.Fl
theorem fin_2 : Fin64 4611686018427387904 := by unfold Fin64; decide
theorem nz_2 : Nz64 4611686018427387904 := by unfold Nz64; decide
theorem dz_2 : dz 4611686018427387904 = 2 * U := by
  have e : FP.dadd 4607182418800017408 4607182418800017408 = 4611686018427387904 := by decide +kernel
  have h := (add_x e fin_1 fin_1 2 0 (by decide) (by decide) (by rw [dz_1, Int.pow_zero]; omega)).2
  rw [h, dz_1]; omega
end Jvm.Own
namespace Jvm.Own
theorem ite_I {P : Prop} [Decidable P] {a b v : Int32} (e : (if P then a else b) = v) : (P → v.toInt = a.toInt) ∧ (¬ P → v.toInt = b.toInt) := by
  subst e; exact ⟨fun q => by rw [if_pos q], fun q => by rw [if_neg q]⟩
end Jvm.Own
namespace Jvm.Own
open Jvm.FP Jvm.FP.Core Jvm.Free.Fl
theorem add0 {a v : UInt64} (e : FP.dadd a 0 = v) (fa : Fin64 a) : Fin64 v ∧ dz v = dz a := by
  obtain ⟨h1, h2⟩ := dadd_x e fa fin_0 fa (by rw [dz_0]; omega)
  exact ⟨h1, by rw [h2, dz_0]; omega⟩
end Jvm.Own
namespace Jvm.Own
open Jvm.FP Jvm.FP.Core Jvm.Free.Fl
/-! a divisor below nought -/
theorem ddiv_leN {a b V : UInt64} (fa : Fin64 a) (fb : Fin64 b) (hb : dz b < 0) (nV : NoNaN64 V) (h : dz V * dz b ≤ dz a * U) : dz (FP.ddiv a b) ≤ dz V := by
  obtain ⟨h1, h2, h3⟩ := ddiv_zm fa fb (by omega)
  have h2 := h2 V nV
  have h3 := h3 V
  have hU : U = (one64 : Int) := rfl
  rw [dz_def (FP.ddiv a b), h1]
  rw [hU] at h
  rw [dz_def V] at h ⊢
  rw [dz_def a] at h
  rw [dz_def b] at h hb
  have p1 := one64_pos
  generalize zmag b64 (val64 (FP.ddiv a b)) = R at *
  generalize zmag b64 (val64 V) = v at *
  generalize zmag b64 (val64 a) = x at *
  generalize zmag b64 (val64 b) = y at *
  generalize sgn (val64 a) = sa at *
  generalize sgn (val64 b) = sb at *
  generalize sgn (val64 V) = sv at *
  cases sb with
  | false => simp only [signed, Bool.false_eq_true, if_false] at hb; omega
  | true =>
    simp only [signed, if_true] at hb
    change signed sv v * (-(y : Int)) ≤ signed sa x * (one64 : Int) at h
    change signed (sa != true) R ≤ signed sv v
    have key : signed sv v * (y : Int) = signed sv (v * y) := (signed_mul sv v y).symm
    have key2 : signed sa x * (one64 : Int) = signed sa (x * one64) := (signed_mul sa x one64).symm
    have yp : 0 < y := by omega
    rw [Int.mul_neg, key, key2] at h
    have z2 : v * y = 0 → v = 0 := fun e => (Nat.mul_eq_zero.mp e).resolve_right (by omega)
    have z3 : v = 0 → v * y = 0 := fun e => by rw [e, Nat.zero_mul]
    have z4 : x = 0 → x * one64 = 0 := fun e => by rw [e, Nat.zero_mul]
    generalize v * y = vy at *
    generalize x * one64 = xo at *
    cases sa <;> cases sv <;> simp only [signed, Bool.bne_true, Bool.not_false, Bool.not_true, Bool.false_eq_true, if_true, if_false] at h ⊢
    · omega
    · have := h3 (by omega); omega
    · have := h2 (by omega); omega
    · have := h2 (by omega); omega
theorem ddiv_geN {a b V : UInt64} (fa : Fin64 a) (fb : Fin64 b) (hb : dz b < 0) (nV : NoNaN64 V) (h : dz a * U ≤ dz V * dz b) : dz V ≤ dz (FP.ddiv a b) := by
  obtain ⟨h1, h2, h3⟩ := ddiv_zm fa fb (by omega)
  have h2 := h2 V nV
  have h3 := h3 V
  have hU : U = (one64 : Int) := rfl
  rw [dz_def (FP.ddiv a b), h1]
  rw [hU] at h
  rw [dz_def V] at h ⊢
  rw [dz_def a] at h
  rw [dz_def b] at h hb
  have p1 := one64_pos
  generalize zmag b64 (val64 (FP.ddiv a b)) = R at *
  generalize zmag b64 (val64 V) = v at *
  generalize zmag b64 (val64 a) = x at *
  generalize zmag b64 (val64 b) = y at *
  generalize sgn (val64 a) = sa at *
  generalize sgn (val64 b) = sb at *
  generalize sgn (val64 V) = sv at *
  cases sb with
  | false => simp only [signed, Bool.false_eq_true, if_false] at hb; omega
  | true =>
    simp only [signed, if_true] at hb
    change signed sa x * (one64 : Int) ≤ signed sv v * (-(y : Int)) at h
    change signed sv v ≤ signed (sa != true) R
    have key : signed sv v * (y : Int) = signed sv (v * y) := (signed_mul sv v y).symm
    have key2 : signed sa x * (one64 : Int) = signed sa (x * one64) := (signed_mul sa x one64).symm
    have yp : 0 < y := by omega
    rw [Int.mul_neg, key, key2] at h
    have z2 : v * y = 0 → v = 0 := fun e => (Nat.mul_eq_zero.mp e).resolve_right (by omega)
    have z3 : v = 0 → v * y = 0 := fun e => by rw [e, Nat.zero_mul]
    have z4 : x = 0 → x * one64 = 0 := fun e => by rw [e, Nat.zero_mul]
    generalize v * y = vy at *
    generalize x * one64 = xo at *
    cases sa <;> cases sv <;> simp only [signed, Bool.bne_true, Bool.not_false, Bool.not_true, Bool.false_eq_true, if_true, if_false] at h ⊢
    · have := h2 (by omega); omega
    · have := h2 (by omega); omega
    · have := h3 (by omega); omega
    · omega
/-- a whole number's multiple, divided by it -/
theorem ddiv_mul {a b v : UInt64} {m q : Int} (e : FP.ddiv a b = v) (fa : Fin64 a) (fb : Fin64 b) (ha : dz a = m * q * U) (hb : dz b = q * U) (hq : q ≠ 0) (hm : m.natAbs < 2 ^ 53) : NoNaN64 v ∧ dz v = m * U := by
  obtain ⟨V, fV, hV⟩ := repU m 0 hm (by decide)
  rw [Int.pow_zero, Int.mul_one] at hV
  have hU := U_pos
  have k1 : dz a * U = dz V * dz b := by rw [ha, hb, hV]; generalize U = u; ac_rfl
  have hbz : dz b ≠ 0 := by rw [hb]; intro z; rcases Int.mul_eq_zero.mp z with z | z <;> omega
  subst e
  refine ⟨ddiv_nn fa fb hbz, ?_⟩
  rw [← hV]
  rcases Int.lt_or_gt_of_ne hbz with z | z
  · exact Int.le_antisymm (ddiv_leN fa fb z fV.noNaN (Int.le_of_eq k1.symm)) (ddiv_geN fa fb z fV.noNaN (Int.le_of_eq k1))
  · exact Int.le_antisymm (ddiv_le fa fb z fV.noNaN (Int.le_of_eq k1)) (ddiv_ge fa fb z fV.noNaN (Int.le_of_eq k1.symm))
end Jvm.Own
namespace Jvm.Own
open Jvm.FP Jvm.FP.Core Jvm.Free.Fl
theorem abs_max {u : UInt64} (h : Fin64 u) : dz (u &&& 0x7fffffffffffffff) ≤ dz 9218868437227405311 :=
  (dcmp_le.mp ((le_max (noNaN64_no.mp h.noNaN)).mpr (fin64_core.mp h))).2.2
end Jvm.Own
namespace Jvm.Own
open Jvm.FP Jvm.FP.Core Jvm.Free.Fl
/-- finite, and of a magnitude of at most A -/
def Bd (x : UInt64) (A : Int) : Prop := Fin64 x ∧ -(A * U) ≤ dz x ∧ dz x ≤ A * U
theorem Bd.fin {x : UInt64} {A : Int} (h : Bd x A) : Fin64 x := h.1
theorem big_U {A : Int} (h : A.natAbs < 2 ^ 53) : A * U ≤ 2 ^ 1000 * U ∧ -(2 ^ 1000 * U) ≤ A * U := by
  have z : (2 : Int) ^ 53 ≤ 2 ^ 1000 := by
    have h1 := Nat.pow_le_pow_right (n := 2) (by decide) (show 53 ≤ 1000 by decide)
    have e1 : ((2 ^ 53 : Nat) : Int) = 2 ^ 53 := Int.natCast_pow 2 53
    have e2 : ((2 ^ 1000 : Nat) : Int) = 2 ^ 1000 := Int.natCast_pow 2 1000
    rw [← e1, ← e2]; exact Int.ofNat_le.mpr h1
  have e : (2 : Int) ^ 53 = 9007199254740992 := by decide
  have hU := U_pos
  have a1 : A * U ≤ 2 ^ 1000 * U := Int.mul_le_mul_of_nonneg_right (by omega) (Int.le_of_lt hU)
  have a2 : (-(2 ^ 1000)) * U ≤ A * U := Int.mul_le_mul_of_nonneg_right (by omega) (Int.le_of_lt hU)
  rw [Int.neg_mul] at a2
  exact ⟨a1, a2⟩
theorem Bd.int {x : UInt64} {i A : Int} (f : Fin64 x) (z : dz x = i * U) (h1 : -A ≤ i) (h2 : i ≤ A) : Bd x A := by
  have hU := U_pos
  have a1 : i * U ≤ A * U := Int.mul_le_mul_of_nonneg_right h2 (Int.le_of_lt hU)
  have a2 : (-A) * U ≤ i * U := Int.mul_le_mul_of_nonneg_right h1 (Int.le_of_lt hU)
  rw [Int.neg_mul] at a2
  exact ⟨f, by omega, by omega⟩
theorem Bd.add {a b v : UInt64} {A B : Int} (e : FP.dadd a b = v) (ha : Bd a A) (hb : Bd b B) (h : (A + B).natAbs < 2 ^ 53) : Bd v (A + B) := by
  obtain ⟨fa, a1, a2⟩ := ha
  obtain ⟨fb, b1, b2⟩ := hb
  have h1 := add_le e fa fb (A + B) 0 h (by decide) (by rw [Int.pow_zero, Int.mul_one, Int.add_mul]; omega)
  have h2 := add_ge e fa fb (-(A + B)) 0 (by omega) (by decide) (by rw [Int.pow_zero, Int.mul_one, Int.neg_mul, Int.add_mul]; omega)
  rw [Int.pow_zero, Int.mul_one] at h1 h2
  rw [Int.neg_mul] at h2
  have := big_U h
  exact ⟨fin_bd (e ▸ dadd_out fa.noNaN fb) (by omega) (by omega), h2, h1⟩
theorem Bd.sub {a b v : UInt64} {A B : Int} (e : FP.dsub a b = v) (ha : Bd a A) (hb : Bd b B) (h : (A + B).natAbs < 2 ^ 53) : Bd v (A + B) := by
  obtain ⟨fa, a1, a2⟩ := ha
  obtain ⟨fb, b1, b2⟩ := hb
  have h1 := sub_le e fa fb (A + B) 0 h (by decide) (by rw [Int.pow_zero, Int.mul_one, Int.add_mul]; omega)
  have h2 := sub_ge e fa fb (-(A + B)) 0 (by omega) (by decide) (by rw [Int.pow_zero, Int.mul_one, Int.neg_mul, Int.add_mul]; omega)
  rw [Int.pow_zero, Int.mul_one] at h1 h2
  rw [Int.neg_mul] at h2
  have := big_U h
  exact ⟨fin_bd (e ▸ dsub_out fa.noNaN fb) (by omega) (by omega), h2, h1⟩
theorem Bd.mono {x : UInt64} {A B : Int} (h : Bd x A) (q : A ≤ B) : Bd x B := by
  have a1 : A * U ≤ B * U := Int.mul_le_mul_of_nonneg_right q (Int.le_of_lt U_pos)
  exact ⟨h.1, by have := h.2.1; omega, by have := h.2.2; omega⟩
theorem Bd.i2d {x : Int32} {v : UInt64} (e : FP.i2d x = v) : Bd v 2147483648 := by
  obtain ⟨f, z⟩ := i2d_v e
  have h1 := Int32.le_toInt x
  have h2 := Int32.toInt_lt x
  exact Bd.int f z (by omega) (by omega)
end Jvm.Own
namespace Jvm.Own
open Jvm.FP Jvm.FP.Core Jvm.Free.Fl
theorem mul_le' {a b v : UInt64} (e : FP.dmul a b = v) (fa : Fin64 a) (fb : Fin64 b) (k : Int) (hk : k.natAbs < 2 ^ 53) (h : dz a * dz b ≤ k * U * U) : dz v ≤ k * U := by
  obtain ⟨V, fV, hV⟩ := repU k 0 hk (by decide)
  rw [Int.pow_zero, Int.mul_one] at hV
  rw [← hV, ← e]
  exact dmul_le fa fb fV.noNaN (by rw [hV]; exact h)
theorem mul_ge' {a b v : UInt64} (e : FP.dmul a b = v) (fa : Fin64 a) (fb : Fin64 b) (k : Int) (hk : k.natAbs < 2 ^ 53) (h : k * U * U ≤ dz a * dz b) : k * U ≤ dz v := by
  obtain ⟨V, fV, hV⟩ := repU k 0 hk (by decide)
  rw [Int.pow_zero, Int.mul_one] at hV
  rw [← hV, ← e]
  exact dmul_ge fa fb fV.noNaN (by rw [hV]; exact h)
theorem abs_mul_le {x y A B : Int} (h1 : -A ≤ x) (h2 : x ≤ A) (h3 : -B ≤ y) (h4 : y ≤ B) : -(A * B) ≤ x * y ∧ x * y ≤ A * B := by
  have e : (x * y).natAbs = x.natAbs * y.natAbs := Int.natAbs_mul x y
  have e2 : x.natAbs * y.natAbs ≤ A.natAbs * B.natAbs := Nat.mul_le_mul (by omega) (by omega)
  have e3 : (A * B).natAbs = A.natAbs * B.natAbs := Int.natAbs_mul A B
  have e4 : 0 ≤ A * B := Int.mul_nonneg (by omega) (by omega)
  omega
theorem Bd.mul {a b v : UInt64} {A B : Int} (e : FP.dmul a b = v) (ha : Bd a A) (hb : Bd b B) (h : (A * B).natAbs < 2 ^ 53) : Bd v (A * B) := by
  obtain ⟨fa, a1, a2⟩ := ha
  obtain ⟨fb, b1, b2⟩ := hb
  obtain ⟨q1, q2⟩ := abs_mul_le a1 a2 b1 b2
  have r1 : A * U * (B * U) = A * B * U * U := by generalize U = u; ac_rfl
  rw [r1] at q1 q2
  have h1 := mul_le' e fa fb (A * B) h q2
  have h2 := mul_ge' e fa fb (-(A * B)) (by omega) (by rw [Int.neg_mul, Int.neg_mul]; exact q1)
  rw [Int.neg_mul] at h2
  have := big_U h
  exact ⟨fin_bd (e ▸ dmul_out fa fb) (by omega) (by omega), h2, h1⟩
end Jvm.Own

namespace Jvm.Own
open Jvm.FP Jvm.FP.Core Jvm.Free.Fl
theorem signed_abs (s : Bool) (m n : Nat) : (signed s m - signed s n).natAbs = ((m : Int) - (n : Int)).natAbs := by
  cases s <;> simp only [signed, if_true, Bool.false_eq_true, if_false] <;> omega
/-- a sum is rounded to within its smaller operand of the exact one -/
theorem near_add {a b : UInt64} (fa : Fin64 a) (fb : Fin64 b) (fx : Fin64 (FP.dadd a b)) (hs : (dz b).natAbs < (dz a).natAbs) : (dz (FP.dadd a b) - (dz a + dz b)).natAbs ≤ (dz b).natAbs := by
  obtain ⟨s, c, q, va⟩ := fin_val fa
  obtain ⟨t, d, r, vb⟩ := fin_val fb
  obtain ⟨sx, cx, qx, vx⟩ := fin_val fx
  have f1 := val64_fits a
  have f2 := val64_fits b
  rw [va] at f1
  rw [vb] at f2
  obtain ⟨sg, n, e, h1, h2, h3⟩ := sum_units f1 f2
  have hv : val64 (FP.dadd a b) = roundRatio b64 sg n 1 e := by
    show val64 (Core.dadd a b) = _
    rw [val64_dadd, va, vb, h1]; rfl
  have hsx : sx = sg := by
    have := sgn_roundRatio b64 sg n 1 e
    rw [← hv, vx] at this; exact this
  subst hsx
  have hn := roundRatio_nearest good_b64 (e0 := b64.qmin) (c' := c) (q' := q) (by decide) (hv.symm.trans vx) f1.1 f1.2.1 (Int.le_refl _) h2
  unfold distance at hn
  have za : dz a = signed s (inUnits c q b64.qmin) := by show zval b64 (val64 a) = _; rw [va]; rfl
  have zb : dz b = zval b64 (.fin t d r) := by show zval b64 (val64 b) = _; rw [vb]
  have za' : dz a = zval b64 (.fin s c q) := by show zval b64 (val64 a) = _; rw [va]
  have zx : dz (FP.dadd a b) = signed sx (inUnits cx qx b64.qmin) := by show zval b64 (val64 (FP.dadd a b)) = _; rw [vx]; rfl
  rw [← za', ← zb] at h3
  have hsg : sx = s := by
    rw [za] at hs h3
    rw [natAbs_signed] at hs
    cases sx <;> cases s <;> simp only [signed, if_true, Bool.false_eq_true, if_false] at h3 <;> first | rfl | (exfalso; omega)
  subst hsg
  rw [← h3, zx, signed_abs]
  have e1 : dz b = signed sx (inUnits n e b64.qmin) - signed sx (inUnits c q b64.qmin) := by rw [h3, za]; omega
  rw [e1, signed_abs]
  have k1 : ((1 : Nat) : Int) = 1 := rfl
  rw [k1, Int.mul_one, Int.mul_one] at hn
  omega
/-- a double of a great magnitude is a multiple of a great power of two -/
theorem gran {y : UInt64} (fy : Fin64 y) {K : Nat} (h : 2 ^ K ≤ (dz y).natAbs) : (2 : Int) ^ (K - 52) ∣ dz y := by
  obtain ⟨s, c, q, v⟩ := fin_val fy
  have f := val64_fits y
  rw [v] at f
  have z : dz y = signed s (c * 2 ^ (q - b64.qmin).toNat) := by show zval b64 (val64 y) = _; rw [v]; rfl
  rw [z, natAbs_signed] at h
  generalize (q - b64.qmin).toNat = Q at *
  have hc : c < 2 ^ 53 := f.1
  have h2 : 2 ^ K < 2 ^ (53 + Q) := by
    rw [Nat.pow_add]
    exact Nat.lt_of_le_of_lt h (Nat.mul_lt_mul_of_pos_right hc (Nat.two_pow_pos Q))
  have h3 : K < 53 + Q := (Nat.pow_lt_pow_iff_right (by decide : 1 < 2)).mp h2
  have h4 : (2 : Int) ^ (K - 52) ∣ ((c * 2 ^ Q : Nat) : Int) := by
    rw [Int.natCast_mul, show ((2 ^ Q : Nat) : Int) = 2 ^ Q from Int.natCast_pow 2 Q, show Q = (K - 52) + (Q - (K - 52)) by omega, Int.pow_add]
    exact ⟨(c : Int) * 2 ^ (Q - (K - 52)), by ac_rfl⟩
  rw [z]
  cases s with
  | false => exact h4
  | true => exact Int.dvd_neg.mpr h4
theorem small_dvd {g x : Int} (h : g ∣ x) (hx : x.natAbs < g.natAbs) : x = 0 := by
  obtain ⟨k, rfl⟩ := h
  rw [Int.natAbs_mul] at hx
  have : k.natAbs = 0 := by
    refine Nat.eq_zero_of_not_pos fun q => ?_
    have := Nat.mul_le_mul_left g.natAbs q
    omega
  rw [Int.natAbs_eq_zero.mp this, Int.mul_zero]
theorem np (j : Nat) : ((2 : Int) ^ j).natAbs = 2 ^ j := by
  rw [← show ((2 ^ j : Nat) : Int) = 2 ^ j from Int.natCast_pow 2 j, Int.natAbs_natCast]
/-- a sum in which the second number is lost -/
theorem absorb {a b : UInt64} (fa : Fin64 a) (fb : Fin64 b) (fx : Fin64 (FP.dadd a b)) {K : Nat} (hK : 54 ≤ K) (ha : 2 ^ K ≤ (dz a).natAbs) (hb : 2 * (dz b).natAbs < 2 ^ (K - 53)) : dz (FP.dadd a b) = dz a := by
  have p1 : 2 ^ (K - 53) ≤ 2 ^ (K - 1) := Nat.pow_le_pow_right (by decide) (by omega)
  have p2 : 2 ^ K = 2 * 2 ^ (K - 1) := by rw [← Nat.pow_succ']; congr 1; omega
  have hn := near_add fa fb fx (by omega)
  have hy : 2 ^ (K - 1) ≤ (dz (FP.dadd a b)).natAbs := by omega
  have g1 := gran fx hy
  have g2 := gran fa ha
  rw [show K - 1 - 52 = K - 53 by omega] at g1
  have g3 : (2 : Int) ^ (K - 53) ∣ dz a := Int.dvd_trans ⟨2, by rw [← Int.pow_succ]; congr 1; omega⟩ g2
  have := small_dvd (Int.dvd_sub g1 g3) (by rw [np]; omega)
  omega
end Jvm.Own

namespace Jvm.Own
open Jvm.FP Jvm.FP.Core Jvm.Free.Fl
/-- finite, and of a magnitude of at most 2^j units -/
def Bp (x : UInt64) (j : Nat) : Prop := Fin64 x ∧ -((2 : Int) ^ j) ≤ dz x ∧ dz x ≤ (2 : Int) ^ j
theorem Bp.nn {x : UInt64} {j : Nat} (h : Bp x j) : NoNaN64 x := h.1.noNaN
theorem pow_mono {i j : Nat} (h : i ≤ j) : (2 : Int) ^ i ≤ 2 ^ j := by
  have := Nat.pow_le_pow_right (n := 2) (by decide) h
  have e1 : ((2 ^ i : Nat) : Int) = 2 ^ i := Int.natCast_pow 2 i
  have e2 : ((2 ^ j : Nat) : Int) = 2 ^ j := Int.natCast_pow 2 j
  omega
theorem pow_top {j : Nat} (h : j ≤ 2040) : (2 : Int) ^ j < (Top : Int) := by
  have := Nat.pow_lt_pow_right (a := 2) (by decide) (show j < 2098 by omega)
  have e1 : ((2 ^ j : Nat) : Int) = 2 ^ j := Int.natCast_pow 2 j
  rw [Top_pow]
  omega
theorem pow_s (j : Nat) : (2 : Int) ^ (j + 1) = 2 * 2 ^ j := by rw [Int.pow_succ, Int.mul_comm]
theorem Bp.of {v : UInt64} {j : Nat} (n : NoNaN64 v) (h1 : -((2 : Int) ^ j) ≤ dz v) (h2 : dz v ≤ (2 : Int) ^ j) (hj : j ≤ 2040) : Bp v j :=
  ⟨fin_of n (by have := pow_top hj; omega), h1, h2⟩
theorem Bp.mono {x : UInt64} {i j : Nat} (h : Bp x i) (q : i ≤ j) : Bp x j := by
  have := pow_mono q
  obtain ⟨f, h1, h2⟩ := h
  exact ⟨f, by omega, by omega⟩
theorem rep_p (j : Nat) (hj : j ≤ 2040) : ∃ V W : UInt64, Fin64 V ∧ Fin64 W ∧ dz V = 2 ^ j ∧ dz W = -(2 ^ j) := by
  obtain ⟨V, f1, z1⟩ := rep 1 j (by decide) hj
  obtain ⟨W, f2, z2⟩ := rep (-1) j (by decide) hj
  exact ⟨V, W, f1, f2, by rw [z1, Int.one_mul], by rw [z2, Int.neg_mul, Int.one_mul]⟩
theorem Bp.add {a b v : UInt64} {j : Nat} (e : FP.dadd a b = v) (ha : Bp a j) (hb : Bp b j) (hj : j ≤ 2000) : Bp v (j + 1) := by
  obtain ⟨fa, a1, a2⟩ := ha
  obtain ⟨fb, b1, b2⟩ := hb
  obtain ⟨V, W, fV, fW, zV, zW⟩ := rep_p (j + 1) (by omega)
  have p := pow_s j
  have h1 := dadd_le fa fb fV.noNaN (by omega)
  have h2 := dadd_ge fa fb fW.noNaN (by omega)
  rw [e] at h1 h2
  exact Bp.of (e ▸ dadd_out fa.noNaN fb) (by omega) (by omega) (by omega)
theorem Bp.sub {a b v : UInt64} {j : Nat} (e : FP.dsub a b = v) (ha : Bp a j) (hb : Bp b j) (hj : j ≤ 2000) : Bp v (j + 1) := by
  obtain ⟨fa, a1, a2⟩ := ha
  obtain ⟨fb, b1, b2⟩ := hb
  obtain ⟨V, W, fV, fW, zV, zW⟩ := rep_p (j + 1) (by omega)
  have p := pow_s j
  have h1 := dsub_le fa fb fV.noNaN (by omega)
  have h2 := dsub_ge fa fb fW.noNaN (by omega)
  rw [e] at h1 h2
  exact Bp.of (e ▸ dsub_out fa.noNaN fb) (by omega) (by omega) (by omega)
theorem Bp.zero : Bp 0 0 := ⟨fin_0, by rw [dz_0]; decide, by rw [dz_0]; decide⟩
/-- twice a number -/
theorem dbl_bp {a v : UInt64} {j : Nat} (e : FP.dmul 4611686018427387904 a = v) (ha : Bp a j) (hj : j ≤ 2000) : Bp v (j + 1) ∧ (dz a ≠ 0 → dz v ≠ 0) := by
  obtain ⟨fa, a1, a2⟩ := ha
  obtain ⟨V, W, fV, fW, zV, zW⟩ := rep_p (j + 1) (by omega)
  obtain ⟨V1, W1, fV1, fW1, zV1, zW1⟩ := rep_p 0 (by omega)
  rw [Int.pow_zero] at zV1 zW1
  have hU := U_pos
  have p := pow_s j
  have k1 : dz 4611686018427387904 * dz a = 2 * dz a * U := by rw [dz_2]; generalize U = u; ac_rfl
  have m1 : 2 * dz a * U ≤ dz V * U := Int.mul_le_mul_of_nonneg_right (by omega) (Int.le_of_lt hU)
  have m2 : dz W * U ≤ 2 * dz a * U := Int.mul_le_mul_of_nonneg_right (by omega) (Int.le_of_lt hU)
  have h1 := dmul_le fin_2 fa fV.noNaN (by rw [k1]; exact m1)
  have h2 := dmul_ge fin_2 fa fW.noNaN (by rw [k1]; exact m2)
  rw [e] at h1 h2
  refine ⟨Bp.of (e ▸ dmul_out fin_2 fa) (by omega) (by omega) (by omega), fun q => ?_⟩
  by_cases s : 0 < dz a
  · have h3 := dmul_ge fin_2 fa fV1.noNaN (by rw [k1]; exact Int.mul_le_mul_of_nonneg_right (by omega) (Int.le_of_lt hU))
    rw [e] at h3; omega
  · have h3 := dmul_le fin_2 fa fW1.noNaN (by rw [k1]; exact Int.mul_le_mul_of_nonneg_right (by omega) (Int.le_of_lt hU))
    rw [e] at h3; omega
/-- b is lost beside a -/
def Tiny (b a : UInt64) : Prop := dz b = 0 ∨ ∃ K m, Bp b m ∧ 2 ^ K ≤ (dz a).natAbs ∧ m + 57 ≤ K
theorem Tiny.big {b a a' : UInt64} (t : Tiny b a) (z : dz a' = dz a) : Tiny b a' := by unfold Tiny; rw [z]; exact t
theorem Tiny.small {b b' a : UInt64} (t : Tiny b a) (f : Fin64 b') (z : dz b' = dz b) : Tiny b' a := by
  rcases t with q | ⟨K, m, ⟨-, h1, h2⟩, h3, h4⟩
  · exact Or.inl (z.trans q)
  · exact Or.inr ⟨K, m, ⟨f, by omega, by omega⟩, h3, h4⟩
theorem tiny_addK {a b v : UInt64} {K m : Nat} (e : FP.dadd a b = v) (ha : Bp a 1900) (hb : Bp b 1900) (h : Bp b m) (h3 : 2 ^ K ≤ (dz a).natAbs) (h4 : m + 55 ≤ K) : dz v = dz a := by
  obtain ⟨-, h1, h2⟩ := h
  have f := (Bp.add e ha hb (by decide)).1
  subst e
  refine absorb ha.1 hb.1 f (K := K) (by omega) h3 ?_
  have p1 : 2 ^ (m + 2) ≤ 2 ^ (K - 53) := Nat.pow_le_pow_right (by decide) (by omega)
  have p2 : 2 ^ (m + 2) = 4 * 2 ^ m := by rw [Nat.pow_add, Nat.mul_comm]
  have p3 : ((2 ^ m : Nat) : Int) = 2 ^ m := Int.natCast_pow 2 m
  have p4 : 0 < 2 ^ m := Nat.two_pow_pos m
  omega
theorem tiny_add {a b v : UInt64} (e : FP.dadd a b = v) (ha : Bp a 1900) (hb : Bp b 1900) (t : Tiny b a) : dz v = dz a := by
  rcases t with q | ⟨K, m, h, h3, h4⟩
  · have := (dadd_x e ha.1 hb.1 ha.1 (by omega)).2; omega
  · exact tiny_addK e ha hb h h3 (by omega)
theorem tiny_add' {a b v : UInt64} (e : FP.dadd b a = v) (ha : Bp a 1900) (hb : Bp b 1900) (t : Tiny b a) : dz v = dz a :=
  tiny_add ((show FP.dadd a b = FP.dadd b a from Core.dadd_comm a b).trans e) ha hb t
theorem dz_dsub (a b : UInt64) : dz (FP.dsub a b) = dz (FP.dadd a (FP.dneg b)) := by
  show zval b64 (val64 (Core.dsub a b)) = zval b64 (val64 (Core.dadd a (FP.dneg b)))
  rw [val64_dsub, val64_dadd, dneg_val]
theorem Bp.neg {a : UInt64} {j : Nat} (h : Bp a j) : Bp (FP.dneg a) j := ⟨fin_neg h.1, by rw [dz_neg]; have := h.2.2; omega, by rw [dz_neg]; have := h.2.1; omega⟩
theorem tiny_sub {a b v : UInt64} (e : FP.dsub a b = v) (ha : Bp a 1900) (hb : Bp b 1900) (t : Tiny b a) : dz v = dz a := by
  rw [← e, dz_dsub]
  refine tiny_add rfl ha hb.neg ?_
  rcases t with q | ⟨K, m, h1, h3, h4⟩
  · exact Or.inl (by rw [dz_neg, q]; rfl)
  · exact Or.inr ⟨K, m, h1.neg, h3, h4⟩
theorem sub_same {a b v : UInt64} (e : FP.dsub a b = v) (fa : Fin64 a) (fb : Fin64 b) (h : dz a = dz b) : dz v = 0 := by
  have := (dsub_x e fa fb fin_0 (by rw [dz_0]; omega)).2; omega
/-- what two-sum reckons -/
def re (a b r : UInt64) : UInt64 := FP.dadd (FP.dsub a (FP.dsub r (FP.dsub r a))) (FP.dsub b (FP.dsub r a))
theorem re_bp {a b r : UInt64} {j : Nat} (ha : Bp a j) (hb : Bp b j) (hr : Bp r j) (hj : j ≤ 1900) : Bp (re a b r) (j + 4) := by
  have h1 := Bp.sub rfl hr ha (by omega)
  have h2 := Bp.sub rfl (hr.mono (by omega)) h1 (by omega)
  have h3 := Bp.sub rfl (ha.mono (by omega)) h2 (by omega)
  have h4 := Bp.sub rfl (hb.mono (by omega)) h1 (by omega)
  exact Bp.add rfl h3 (h4.mono (by omega)) (by omega)
theorem re_1 {a b r : UInt64} (ha : Bp a 1800) (hb : Bp b 1800) (hr : Bp r 1800) (t : Tiny b a) (z : dz r = dz a) : dz (re a b r) = dz b := by
  have h1 := Bp.sub rfl hr ha (by omega)
  have h2 := Bp.sub rfl (hr.mono (by omega)) h1 (by omega)
  have h3 := Bp.sub rfl (ha.mono (by omega)) h2 (by omega)
  have h4 := Bp.sub rfl (hb.mono (by omega)) h1 (by omega)
  have z1 : dz (FP.dsub r a) = 0 := sub_same rfl hr.1 ha.1 z
  have z2 : dz (FP.dsub r (FP.dsub r a)) = dz r := tiny_sub rfl (hr.mono (by decide)) (h1.mono (by decide)) (Or.inl z1)
  have z3 : dz (FP.dsub a (FP.dsub r (FP.dsub r a))) = 0 := sub_same rfl ha.1 h2.1 (by omega)
  have z4 : dz (FP.dsub b (FP.dsub r a)) = dz b := tiny_sub rfl (hb.mono (by decide)) (h1.mono (by decide)) (Or.inl z1)
  have := tiny_add' (b := FP.dsub a (FP.dsub r (FP.dsub r a))) (a := FP.dsub b (FP.dsub r a)) rfl (h4.mono (by decide)) (h3.mono (by decide)) (Or.inl z3)
  unfold re; omega
theorem re_2 {a b r : UInt64} (ha : Bp a 1800) (hb : Bp b 1800) (hr : Bp r 1800) (t : Tiny b a) (z : dz r = dz a) : dz (re b a r) = dz b := by
  have h1 := Bp.sub rfl hr hb (by omega)
  have h2 := Bp.sub rfl (hr.mono (by omega)) h1 (by omega)
  have h3 := Bp.sub rfl (hb.mono (by omega)) h2 (by omega)
  have h4 := Bp.sub rfl (ha.mono (by omega)) h1 (by omega)
  have z1 : dz (FP.dsub r b) = dz r := tiny_sub rfl (hr.mono (by decide)) (hb.mono (by decide)) (t.big z)
  have z2 : dz (FP.dsub r (FP.dsub r b)) = 0 := sub_same rfl hr.1 h1.1 (by omega)
  have z3 : dz (FP.dsub b (FP.dsub r (FP.dsub r b))) = dz b := tiny_sub rfl (hb.mono (by decide)) (h2.mono (by decide)) (Or.inl z2)
  have z4 : dz (FP.dsub a (FP.dsub r b)) = 0 := sub_same rfl ha.1 h1.1 (by omega)
  have := tiny_add (a := FP.dsub b (FP.dsub r (FP.dsub r b))) (b := FP.dsub a (FP.dsub r b)) rfl (h3.mono (by decide)) (h4.mono (by decide)) (Or.inl z4)
  unfold re; omega
/-! what one extension of a sum reckons: ad the addend, lo and hi the parent's two parts -/
def F1 (ad lo : UInt64) : UInt64 := FP.dadd ad lo
def S1 (ad lo hi : UInt64) : UInt64 := FP.dadd (F1 ad lo) hi
def E1 (ad lo : UInt64) : UInt64 := re ad lo (F1 ad lo)
def E2 (ad lo hi : UInt64) : UInt64 := re (F1 ad lo) hi (S1 ad lo hi)
def ER (ad lo hi : UInt64) : UInt64 := FP.dadd (E1 ad lo) (E2 ad lo hi)
def XX (ad lo hi : UInt64) : UInt64 := re (E1 ad lo) (E2 ad lo hi) (ER ad lo hi)
def VV (ad lo hi : UInt64) : UInt64 := FP.dadd (S1 ad lo hi) (ER ad lo hi)
def RR (ad lo hi : UInt64) : UInt64 := re (S1 ad lo hi) (ER ad lo hi) (VV ad lo hi)
section Ext
variable {ad lo hi : UInt64} {j : Nat}
theorem F1_bp (ha : Bp ad j) (hl : Bp lo j) (hj : j ≤ 1700) : Bp (F1 ad lo) (j + 1) := Bp.add rfl ha hl (by omega)
theorem S1_bp (ha : Bp ad j) (hl : Bp lo j) (hh : Bp hi j) (hj : j ≤ 1700) : Bp (S1 ad lo hi) (j + 2) := Bp.add rfl (F1_bp ha hl hj) (hh.mono (by omega)) (by omega)
theorem E1_bp (ha : Bp ad j) (hl : Bp lo j) (hj : j ≤ 1700) : Bp (E1 ad lo) (j + 5) := re_bp (ha.mono (by omega)) (hl.mono (by omega)) (F1_bp ha hl hj) (by omega)
theorem E2_bp (ha : Bp ad j) (hl : Bp lo j) (hh : Bp hi j) (hj : j ≤ 1700) : Bp (E2 ad lo hi) (j + 6) := re_bp ((F1_bp ha hl hj).mono (by omega)) (hh.mono (by omega)) (S1_bp ha hl hh hj) (by omega)
theorem ER_bp (ha : Bp ad j) (hl : Bp lo j) (hh : Bp hi j) (hj : j ≤ 1700) : Bp (ER ad lo hi) (j + 7) := Bp.add rfl ((E1_bp ha hl hj).mono (by omega)) (E2_bp ha hl hh hj) (by omega)
theorem XX_bp (ha : Bp ad j) (hl : Bp lo j) (hh : Bp hi j) (hj : j ≤ 1700) : Bp (XX ad lo hi) (j + 11) := re_bp ((E1_bp ha hl hj).mono (by omega)) ((E2_bp ha hl hh hj).mono (by omega)) (ER_bp ha hl hh hj) (by omega)
theorem VV_bp (ha : Bp ad j) (hl : Bp lo j) (hh : Bp hi j) (hj : j ≤ 1700) : Bp (VV ad lo hi) (j + 8) := Bp.add rfl ((S1_bp ha hl hh hj).mono (by omega)) (ER_bp ha hl hh hj) (by omega)
theorem RR_bp (ha : Bp ad j) (hl : Bp lo j) (hh : Bp hi j) (hj : j ≤ 1700) : Bp (RR ad lo hi) (j + 12) := re_bp ((S1_bp ha hl hh hj).mono (by omega)) ((ER_bp ha hl hh hj).mono (by omega)) (VV_bp ha hl hh hj) (by omega)
/-- the parent's lower part is 0 -/
theorem ext0 (ha : Bp ad 1700) (hl : Bp lo 1700) (hh : Bp hi 1700) (z : dz lo = 0) : dz (F1 ad lo) = dz ad ∧ dz (E1 ad lo) = 0 ∧ dz (ER ad lo hi) = dz (E2 ad lo hi) ∧ dz (XX ad lo hi) = 0 := by
  have b1 := (F1_bp ha hl (by decide)).mono (show _ ≤ 1800 by decide)
  have b2 := (E1_bp ha hl (by decide)).mono (show _ ≤ 1800 by decide)
  have b3 := (E2_bp ha hl hh (by decide)).mono (show _ ≤ 1800 by decide)
  have b4 := (ER_bp ha hl hh (by decide)).mono (show _ ≤ 1800 by decide)
  have z1 : dz (F1 ad lo) = dz ad := tiny_add rfl (ha.mono (by decide)) (hl.mono (by decide)) (Or.inl z)
  have z2 : dz (E1 ad lo) = 0 := (re_1 (ha.mono (by decide)) (hl.mono (by decide)) b1 (Or.inl z) z1).trans z
  have z3 : dz (ER ad lo hi) = dz (E2 ad lo hi) := tiny_add' rfl (b3.mono (by decide)) (b2.mono (by decide)) (Or.inl z2)
  have z4 : dz (XX ad lo hi) = 0 := (re_2 b3 b2 b4 (Or.inl z2) z3).trans z2
  exact ⟨z1, z2, z3, z4⟩
theorem ext0_a (ha : Bp ad 1700) (hl : Bp lo 1700) (hh : Bp hi 1700) (z : dz lo = 0) (t : Tiny ad hi) : dz (VV ad lo hi) = dz hi ∧ dz (RR ad lo hi) = dz ad := by
  obtain ⟨z1, z2, z3, z4⟩ := ext0 ha hl hh z
  have b1 := (F1_bp ha hl (by decide)).mono (show _ ≤ 1800 by decide)
  have b5 := (S1_bp ha hl hh (by decide)).mono (show _ ≤ 1800 by decide)
  have b4 := (ER_bp ha hl hh (by decide)).mono (show _ ≤ 1800 by decide)
  have b6 := (VV_bp ha hl hh (by decide)).mono (show _ ≤ 1800 by decide)
  have hh' := hh.mono (show _ ≤ 1800 by decide)
  have t1 := t.small b1.1 z1
  have z5 : dz (S1 ad lo hi) = dz hi := tiny_add' rfl (hh'.mono (by decide)) (b1.mono (by decide)) t1
  have z6 : dz (E2 ad lo hi) = dz (F1 ad lo) := re_2 hh' b1 b5 t1 z5
  have t2 : Tiny (ER ad lo hi) (S1 ad lo hi) := (t.small b4.1 (by omega)).big z5
  have z7 : dz (VV ad lo hi) = dz (S1 ad lo hi) := tiny_add rfl (b5.mono (by decide)) (b4.mono (by decide)) t2
  have z8 : dz (RR ad lo hi) = dz (ER ad lo hi) := re_1 b5 b4 b6 t2 z7
  exact ⟨by omega, by omega⟩
theorem ext0_b (ha : Bp ad 1700) (hl : Bp lo 1700) (hh : Bp hi 1700) (z : dz lo = 0) (t : Tiny hi ad) : dz (VV ad lo hi) = dz ad ∧ dz (RR ad lo hi) = dz hi := by
  obtain ⟨z1, z2, z3, z4⟩ := ext0 ha hl hh z
  have b1 := (F1_bp ha hl (by decide)).mono (show _ ≤ 1800 by decide)
  have b5 := (S1_bp ha hl hh (by decide)).mono (show _ ≤ 1800 by decide)
  have b4 := (ER_bp ha hl hh (by decide)).mono (show _ ≤ 1800 by decide)
  have b6 := (VV_bp ha hl hh (by decide)).mono (show _ ≤ 1800 by decide)
  have hh' := hh.mono (show _ ≤ 1800 by decide)
  have t1 := t.big z1
  have z5 : dz (S1 ad lo hi) = dz (F1 ad lo) := tiny_add rfl (b1.mono (by decide)) (hh'.mono (by decide)) t1
  have z6 : dz (E2 ad lo hi) = dz hi := re_1 b1 hh' b5 t1 z5
  have t2 : Tiny (ER ad lo hi) (S1 ad lo hi) := (t.small b4.1 (by omega)).big (by omega)
  have z7 : dz (VV ad lo hi) = dz (S1 ad lo hi) := tiny_add rfl (b5.mono (by decide)) (b4.mono (by decide)) t2
  have z8 : dz (RR ad lo hi) = dz (ER ad lo hi) := re_1 b5 b4 b6 t2 z7
  exact ⟨by omega, by omega⟩
/-- the addend is the least of three -/
theorem ext3_a (ha : Bp ad 1700) (hl : Bp lo 1700) (hh : Bp hi 1700) (t : Tiny ad lo) (u : Tiny lo hi) : dz (S1 ad lo hi) = dz hi ∧ dz (E2 ad lo hi) = dz lo ∧ dz (XX ad lo hi) = dz ad ∧ Tiny (E2 ad lo hi) (S1 ad lo hi) ∧ dz (VV ad lo hi) = dz hi ∧ dz (RR ad lo hi) = dz lo := by
  have b1 := (F1_bp ha hl (by decide)).mono (show _ ≤ 1800 by decide)
  have b2 := (E1_bp ha hl (by decide)).mono (show _ ≤ 1800 by decide)
  have b3 := (E2_bp ha hl hh (by decide)).mono (show _ ≤ 1800 by decide)
  have b4 := (ER_bp ha hl hh (by decide)).mono (show _ ≤ 1800 by decide)
  have b5 := (S1_bp ha hl hh (by decide)).mono (show _ ≤ 1800 by decide)
  have b6 := (VV_bp ha hl hh (by decide)).mono (show _ ≤ 1800 by decide)
  have ha' := ha.mono (show _ ≤ 1800 by decide)
  have hl' := hl.mono (show _ ≤ 1800 by decide)
  have hh' := hh.mono (show _ ≤ 1800 by decide)
  have z1 : dz (F1 ad lo) = dz lo := tiny_add' rfl (hl'.mono (by decide)) (ha'.mono (by decide)) t
  have z2 : dz (E1 ad lo) = dz ad := re_2 hl' ha' b1 t z1
  have u1 := u.small b1.1 z1
  have z5 : dz (S1 ad lo hi) = dz hi := tiny_add' rfl (hh'.mono (by decide)) (b1.mono (by decide)) u1
  have z6 : dz (E2 ad lo hi) = dz (F1 ad lo) := re_2 hh' b1 b5 u1 z5
  have t1 : Tiny (E1 ad lo) (E2 ad lo hi) := (t.small b2.1 z2).big (by omega)
  have z7 : dz (ER ad lo hi) = dz (E2 ad lo hi) := tiny_add' rfl (b3.mono (by decide)) (b2.mono (by decide)) t1
  have z8 : dz (XX ad lo hi) = dz (E1 ad lo) := re_2 b3 b2 b4 t1 z7
  have t2 : Tiny (E2 ad lo hi) (S1 ad lo hi) := (u.small b3.1 (by omega)).big z5
  have t3 : Tiny (ER ad lo hi) (S1 ad lo hi) := t2.small b4.1 z7
  have z9 : dz (VV ad lo hi) = dz (S1 ad lo hi) := tiny_add rfl (b5.mono (by decide)) (b4.mono (by decide)) t3
  have z10 : dz (RR ad lo hi) = dz (ER ad lo hi) := re_1 b5 b4 b6 t3 z9
  exact ⟨z5, by omega, by omega, t2, by omega, by omega⟩
/-- the addend is the greatest of three -/
theorem ext3_b (ha : Bp ad 1700) (hl : Bp lo 1700) (hh : Bp hi 1700) (t : Tiny lo ad) (u : Tiny hi ad) (w : Tiny lo hi) : dz (S1 ad lo hi) = dz ad ∧ dz (E2 ad lo hi) = dz hi ∧ dz (XX ad lo hi) = dz lo ∧ Tiny (E2 ad lo hi) (S1 ad lo hi) := by
  have b1 := (F1_bp ha hl (by decide)).mono (show _ ≤ 1800 by decide)
  have b2 := (E1_bp ha hl (by decide)).mono (show _ ≤ 1800 by decide)
  have b3 := (E2_bp ha hl hh (by decide)).mono (show _ ≤ 1800 by decide)
  have b4 := (ER_bp ha hl hh (by decide)).mono (show _ ≤ 1800 by decide)
  have b5 := (S1_bp ha hl hh (by decide)).mono (show _ ≤ 1800 by decide)
  have ha' := ha.mono (show _ ≤ 1800 by decide)
  have hl' := hl.mono (show _ ≤ 1800 by decide)
  have hh' := hh.mono (show _ ≤ 1800 by decide)
  have z1 : dz (F1 ad lo) = dz ad := tiny_add rfl (ha'.mono (by decide)) (hl'.mono (by decide)) t
  have z2 : dz (E1 ad lo) = dz lo := re_1 ha' hl' b1 t z1
  have u1 := u.big z1
  have z5 : dz (S1 ad lo hi) = dz (F1 ad lo) := tiny_add rfl (b1.mono (by decide)) (hh'.mono (by decide)) u1
  have z6 : dz (E2 ad lo hi) = dz hi := re_1 b1 hh' b5 u1 z5
  have t1 : Tiny (E1 ad lo) (E2 ad lo hi) := (w.small b2.1 z2).big z6
  have z7 : dz (ER ad lo hi) = dz (E2 ad lo hi) := tiny_add' rfl (b3.mono (by decide)) (b2.mono (by decide)) t1
  have z8 : dz (XX ad lo hi) = dz (E1 ad lo) := re_2 b3 b2 b4 t1 z7
  exact ⟨by omega, z6, by omega, (u.small b3.1 z6).big (by omega)⟩
end Ext
end Jvm.Own
namespace Jvm.Own
open Jvm.FP Jvm.FP.Core Jvm.Free.Fl
theorem U_p : U = (2 : Int) ^ 1074 := U_pow
theorem Bp.i2d {x : Int32} {v : UInt64} (e : FP.i2d x = v) : Bp v 1105 := by
  obtain ⟨f, z⟩ := i2d_v e
  have h1 := Int32.le_toInt x
  have h2 := Int32.toInt_lt x
  have hU := U_pos
  have p : (2 : Int) ^ 1105 = 2147483648 * U := by
    rw [U_p, show (1105 : Nat) = 31 + 1074 from rfl, Int.pow_add]; rfl
  have a1 : x.toInt * U ≤ 2147483648 * U := Int.mul_le_mul_of_nonneg_right (by omega) (Int.le_of_lt hU)
  have a2 : (-2147483648) * U ≤ x.toInt * U := Int.mul_le_mul_of_nonneg_right (by omega) (Int.le_of_lt hU)
  rw [Int.neg_mul] at a2
  exact ⟨f, by rw [z, p]; exact a2, by rw [z, p]; exact a1⟩
theorem Bp.mul {a b v : UInt64} {i j : Nat} (e : FP.dmul a b = v) (ha : Bp a i) (hb : Bp b j) (k : Nat) (hk : i + j = k + 1074) (hk2 : k ≤ 2040) : Bp v k := by
  obtain ⟨fa, a1, a2⟩ := ha
  obtain ⟨fb, b1, b2⟩ := hb
  obtain ⟨V, W, fV, fW, zV, zW⟩ := rep_p k hk2
  have p : (2 : Int) ^ i * 2 ^ j = 2 ^ k * U := by rw [U_p, ← Int.pow_add, ← Int.pow_add, hk]
  obtain ⟨q1, q2⟩ := abs_mul_le a1 a2 b1 b2
  rw [p] at q1 q2
  have h1 := dmul_le fa fb fV.noNaN (by rw [zV]; exact q2)
  have h2 := dmul_ge fa fb fW.noNaN (by rw [zW, Int.neg_mul]; exact q1)
  rw [e] at h1 h2
  exact Bp.of (e ▸ dmul_out fa fb) (by omega) (by omega) hk2
theorem Bp.div {a b v : UInt64} {i : Nat} (e : FP.ddiv a b = v) (ha : Bp a i) (fb : Fin64 b) (hb : U ≤ dz b) (hi : i ≤ 2040) : Bp v i := by
  obtain ⟨fa, a1, a2⟩ := ha
  obtain ⟨V, W, fV, fW, zV, zW⟩ := rep_p i hi
  have hU := U_pos
  have p := p2_pos i
  have m1 : dz a * U ≤ 2 ^ i * U := Int.mul_le_mul_of_nonneg_right a2 (Int.le_of_lt hU)
  have m2 : (2 : Int) ^ i * U ≤ 2 ^ i * dz b := Int.mul_le_mul_of_nonneg_left hb (Int.le_of_lt p)
  have m3 : -((2 : Int) ^ i) * U ≤ dz a * U := Int.mul_le_mul_of_nonneg_right a1 (Int.le_of_lt hU)
  rw [Int.neg_mul] at m3
  have h1 := ddiv_le fa fb (by omega) fV.noNaN (by rw [zV]; omega)
  have h2 := ddiv_ge fa fb (by omega) fW.noNaN (by rw [zW, Int.neg_mul]; omega)
  rw [e] at h1 h2
  exact Bp.of (e ▸ ddiv_nn fa fb (by omega)) (by omega) (by omega) hi
end Jvm.Own

namespace Jvm.Pilot.@@N@@
open Jvm Jvm.ClassFile Sem Op Lib Jvm.Free Jvm.Stand Jvm.LawKit Jvm.RoadKit Bundle Jvm.Free.Fl Jvm.Pilot.@@N@@.Jvm.D
theorem pd_0 : parseMethodDescriptor "(D)D" = some ⟨[.double], some .double⟩ := by decide +kernel
theorem pn_java_lang_Double : plainName "java/lang/Double" = true := by first | (simp [plainName, overriddenIn]; done) | decide +kernel
abbrev mn_1 : MethodName := (⟨"java/lang/Double", "isFinite", "(D)Z"⟩ : MethodName)
theorem pn_com_example_rainyday_rainyday_ExactSum : plainName "com/example/rainyday/rainyday/ExactSum" = true := by first | (simp [plainName, overriddenIn]; done) | decide +kernel
abbrev mn_2 : MethodName := (⟨"com/example/rainyday/rainyday/ExactSum", "roundingError", "(DDD)D"⟩ : MethodName)
abbrev mn_3 : MethodName := (⟨"com/example/rainyday/rainyday/ExactSum", "<init>", "(D[D)V"⟩ : MethodName)
theorem pn_com_example_rainyday_rainyday_ExactSum_TreeSums : plainName "com/example/rainyday/rainyday/ExactSum$TreeSums" = true := by first | (simp [plainName, overriddenIn]; done) | decide +kernel
abbrev mn_4 : MethodName := (⟨"com/example/rainyday/rainyday/ExactSum$TreeSums", "<init>", "(I)V"⟩ : MethodName)
abbrev mn_5 : MethodName := (⟨"com/example/rainyday/rainyday/ExactSum$TreeSums", "zero", "(I)V"⟩ : MethodName)
abbrev mn_6 : MethodName := (⟨"com/example/rainyday/rainyday/ExactSum$TreeSums", "value", "(I)D"⟩ : MethodName)
abbrev mn_7 : MethodName := (⟨"com/example/rainyday/rainyday/ExactSum$TreeSums", "isExact", "(I)Z"⟩ : MethodName)
theorem pd_8 : parseMethodDescriptor "(DDD)D" = some ⟨[.double, .double, .double], some .double⟩ := by decide +kernel
theorem pd_9 : parseMethodDescriptor "(D[D)V" = some ⟨[.double, (.array .double)], none⟩ := by decide +kernel
abbrev mn_10 : MethodName := (⟨"com/example/rainyday/rainyday/ExactSum", "fromParts", "([D)Lcom/example/rainyday/rainyday/ExactSum;"⟩ : MethodName)
abbrev mn_11 : MethodName := (⟨"com/example/rainyday/rainyday/ExactSum$TreeSums", "store", "(ILcom/example/rainyday/rainyday/ExactSum;)V"⟩ : MethodName)
theorem pd_12 : parseMethodDescriptor "(D)Z" = some ⟨[.double], some .boolean⟩ := by decide +kernel
abbrev mn_13 : MethodName := (⟨"com/example/rainyday/rainyday/ExactSum$TreeSums", "extend", "(IID)V"⟩ : MethodName)
theorem pd_14 : parseMethodDescriptor "([D)Lcom/example/rainyday/rainyday/ExactSum;" = some ⟨[(.array .double)], some (.object "com/example/rainyday/rainyday/ExactSum")⟩ := by decide +kernel
theorem pd_15 : parseMethodDescriptor "(ILcom/example/rainyday/rainyday/ExactSum;)V" = some ⟨[.int, (.object "com/example/rainyday/rainyday/ExactSum")], none⟩ := by decide +kernel
theorem pd_16 : parseMethodDescriptor "(I)V" = some ⟨[.int], none⟩ := by decide +kernel
theorem pd_17 : parseMethodDescriptor "(IID)V" = some ⟨[.int, .int, .double], none⟩ := by decide +kernel
theorem pd_18 : parseMethodDescriptor "(I)Z" = some ⟨[.int], some .boolean⟩ := by decide +kernel
theorem pd_19 : parseMethodDescriptor "(I)D" = some ⟨[.int], some .double⟩ := by decide +kernel
theorem pn_com_example_rainyday_rainyday_TreeSumsIsExactPinLaw : plainName "com/example/rainyday/rainyday/TreeSumsIsExactPinLaw" = true := by first | (simp [plainName, overriddenIn]; done) | decide +kernel
theorem d5_0 : decode jdk_117_method_8_code 0 = .ok (.dload_n 0, 1) := by decide +kernel
theorem d5_1 : decode jdk_117_method_8_code 1 = .ok (.invokestatic 38, 3) := by decide +kernel
theorem d5_4 : decode jdk_117_method_8_code 4 = .ok (.ldc2_w 111, 3) := by decide +kernel
theorem nnc_9218868437227405311 : NoNaN64 9218868437227405311 := by unfold NoNaN64; decide
theorem d5_7 : decode jdk_117_method_8_code 7 = .ok (.dcmp .g, 1) := by decide +kernel
theorem d5_8 : decode jdk_117_method_8_code 8 = .ok (.ifCond .gt 7, 3) := by decide +kernel
theorem d5_11 : decode jdk_117_method_8_code 11 = .ok (.iconst 1, 1) := by decide +kernel
theorem d5_12 : decode jdk_117_method_8_code 12 = .ok (.goto 4, 3) := by decide +kernel
theorem d5_16 : decode jdk_117_method_8_code 16 = .ok (.ireturn, 1) := by decide +kernel
theorem d7_0 : decode prog_5_method_9_code 0 = .ok (.dload 4, 2) := by decide +kernel
theorem d7_2 : decode prog_5_method_9_code 2 = .ok (.dload_n 0, 1) := by decide +kernel
theorem d7_3 : decode prog_5_method_9_code 3 = .ok (.dsub, 1) := by decide +kernel
theorem d7_4 : decode prog_5_method_9_code 4 = .ok (.dstore 6, 2) := by decide +kernel
theorem d7_6 : decode prog_5_method_9_code 6 = .ok (.dload 4, 2) := by decide +kernel
theorem d7_8 : decode prog_5_method_9_code 8 = .ok (.dload 6, 2) := by decide +kernel
theorem d7_10 : decode prog_5_method_9_code 10 = .ok (.dsub, 1) := by decide +kernel
theorem d7_11 : decode prog_5_method_9_code 11 = .ok (.dstore 8, 2) := by decide +kernel
theorem d7_13 : decode prog_5_method_9_code 13 = .ok (.dload_n 0, 1) := by decide +kernel
theorem d7_14 : decode prog_5_method_9_code 14 = .ok (.dload 8, 2) := by decide +kernel
theorem d7_16 : decode prog_5_method_9_code 16 = .ok (.dsub, 1) := by decide +kernel
theorem d7_17 : decode prog_5_method_9_code 17 = .ok (.dload_n 2, 1) := by decide +kernel
theorem d7_18 : decode prog_5_method_9_code 18 = .ok (.dload 6, 2) := by decide +kernel
theorem d7_20 : decode prog_5_method_9_code 20 = .ok (.dsub, 1) := by decide +kernel
theorem d7_21 : decode prog_5_method_9_code 21 = .ok (.dadd, 1) := by decide +kernel
theorem d7_22 : decode prog_5_method_9_code 22 = .ok (.dreturn, 1) := by decide +kernel
theorem d12_0 : decode prog_5_method_1_code 0 = .ok (.aload_n 0, 1) := by decide +kernel
theorem d12_1 : decode prog_5_method_1_code 1 = .ok (.invokespecial 1, 3) := by decide +kernel
theorem d12_4 : decode prog_5_method_1_code 4 = .ok (.aload_n 0, 1) := by decide +kernel
theorem d12_5 : decode prog_5_method_1_code 5 = .ok (.dload_n 1, 1) := by decide +kernel
theorem d12_6 : decode prog_5_method_1_code 6 = .ok (.putfield 7, 3) := by decide +kernel
theorem d12_9 : decode prog_5_method_1_code 9 = .ok (.aload_n 0, 1) := by decide +kernel
theorem d12_10 : decode prog_5_method_1_code 10 = .ok (.aload_n 3, 1) := by decide +kernel
theorem d12_11 : decode prog_5_method_1_code 11 = .ok (.putfield 13, 3) := by decide +kernel
theorem d12_14 : decode prog_5_method_1_code 14 = .ok (.return_, 1) := by decide +kernel
theorem d1_0 : decode prog_6_method_1_code 0 = .ok (.aload_n 0, 1) := by decide +kernel
theorem d1_1 : decode prog_6_method_1_code 1 = .ok (.invokespecial 1, 3) := by decide +kernel
theorem d1_4 : decode prog_6_method_1_code 4 = .ok (.aload_n 0, 1) := by decide +kernel
theorem d1_5 : decode prog_6_method_1_code 5 = .ok (.iload_n 1, 1) := by decide +kernel
theorem d1_6 : decode prog_6_method_1_code 6 = .ok (.newarray .double, 2) := by decide +kernel
theorem d1_8 : decode prog_6_method_1_code 8 = .ok (.putfield 7, 3) := by decide +kernel
theorem d1_11 : decode prog_6_method_1_code 11 = .ok (.aload_n 0, 1) := by decide +kernel
theorem d1_12 : decode prog_6_method_1_code 12 = .ok (.iload_n 1, 1) := by decide +kernel
theorem d1_13 : decode prog_6_method_1_code 13 = .ok (.newarray .double, 2) := by decide +kernel
theorem d1_15 : decode prog_6_method_1_code 15 = .ok (.putfield 13, 3) := by decide +kernel
theorem d1_18 : decode prog_6_method_1_code 18 = .ok (.aload_n 0, 1) := by decide +kernel
theorem d1_19 : decode prog_6_method_1_code 19 = .ok (.iload_n 1, 1) := by decide +kernel
theorem d1_20 : decode prog_6_method_1_code 20 = .ok (.anewarray 16, 3) := by decide +kernel
theorem d1_23 : decode prog_6_method_1_code 23 = .ok (.putfield 18, 3) := by decide +kernel
theorem d1_26 : decode prog_6_method_1_code 26 = .ok (.return_, 1) := by decide +kernel
theorem d3_0 : decode prog_6_method_2_code 0 = .ok (.aload_n 0, 1) := by decide +kernel
theorem d3_1 : decode prog_6_method_2_code 1 = .ok (.getfield 7, 3) := by decide +kernel
theorem d3_4 : decode prog_6_method_2_code 4 = .ok (.iload_n 1, 1) := by decide +kernel
theorem d3_5 : decode prog_6_method_2_code 5 = .ok (.dconst 0, 1) := by decide +kernel
theorem d3_6 : decode prog_6_method_2_code 6 = .ok (.dastore, 1) := by decide +kernel
theorem d3_7 : decode prog_6_method_2_code 7 = .ok (.aload_n 0, 1) := by decide +kernel
theorem d3_8 : decode prog_6_method_2_code 8 = .ok (.getfield 13, 3) := by decide +kernel
theorem d3_11 : decode prog_6_method_2_code 11 = .ok (.iload_n 1, 1) := by decide +kernel
theorem d3_12 : decode prog_6_method_2_code 12 = .ok (.dconst 0, 1) := by decide +kernel
theorem d3_13 : decode prog_6_method_2_code 13 = .ok (.dastore, 1) := by decide +kernel
theorem d3_14 : decode prog_6_method_2_code 14 = .ok (.aload_n 0, 1) := by decide +kernel
theorem d3_15 : decode prog_6_method_2_code 15 = .ok (.getfield 18, 3) := by decide +kernel
theorem d3_18 : decode prog_6_method_2_code 18 = .ok (.iload_n 1, 1) := by decide +kernel
theorem d3_19 : decode prog_6_method_2_code 19 = .ok (.aconst_null, 1) := by decide +kernel
theorem d3_20 : decode prog_6_method_2_code 20 = .ok (.aastore, 1) := by decide +kernel
theorem d3_21 : decode prog_6_method_2_code 21 = .ok (.return_, 1) := by decide +kernel
theorem d9_0 : decode prog_6_method_5_code 0 = .ok (.aload_n 0, 1) := by decide +kernel
theorem d9_1 : decode prog_6_method_5_code 1 = .ok (.getfield 7, 3) := by decide +kernel
theorem d9_4 : decode prog_6_method_5_code 4 = .ok (.iload_n 1, 1) := by decide +kernel
theorem d9_5 : decode prog_6_method_5_code 5 = .ok (.daload, 1) := by decide +kernel
theorem d9_6 : decode prog_6_method_5_code 6 = .ok (.dreturn, 1) := by decide +kernel
theorem d8_0 : decode prog_6_method_6_code 0 = .ok (.aload_n 0, 1) := by decide +kernel
theorem d8_1 : decode prog_6_method_6_code 1 = .ok (.getfield 13, 3) := by decide +kernel
theorem d8_4 : decode prog_6_method_6_code 4 = .ok (.iload_n 1, 1) := by decide +kernel
theorem d8_5 : decode prog_6_method_6_code 5 = .ok (.daload, 1) := by decide +kernel
theorem d8_6 : decode prog_6_method_6_code 6 = .ok (.dconst 0, 1) := by decide +kernel
theorem d8_7 : decode prog_6_method_6_code 7 = .ok (.dcmp .l, 1) := by decide +kernel
theorem d8_8 : decode prog_6_method_6_code 8 = .ok (.ifCond .ne 16, 3) := by decide +kernel
theorem d8_24 : decode prog_6_method_6_code 24 = .ok (.iconst 0, 1) := by decide +kernel
theorem d8_25 : decode prog_6_method_6_code 25 = .ok (.ireturn, 1) := by decide +kernel
theorem d8_11 : decode prog_6_method_6_code 11 = .ok (.aload_n 0, 1) := by decide +kernel
theorem d8_12 : decode prog_6_method_6_code 12 = .ok (.getfield 18, 3) := by decide +kernel
theorem d8_15 : decode prog_6_method_6_code 15 = .ok (.iload_n 1, 1) := by decide +kernel
theorem d8_16 : decode prog_6_method_6_code 16 = .ok (.aaload, 1) := by decide +kernel
theorem d8_17 : decode prog_6_method_6_code 17 = .ok (.ifnonnull 7, 3) := by decide +kernel
theorem d8_20 : decode prog_6_method_6_code 20 = .ok (.iconst 1, 1) := by decide +kernel
theorem d8_21 : decode prog_6_method_6_code 21 = .ok (.goto 4, 3) := by decide +kernel
theorem d10_0 : decode prog_5_method_11_code 0 = .ok (.aload_n 0, 1) := by decide +kernel
theorem d10_1 : decode prog_5_method_11_code 1 = .ok (.arraylength, 1) := by decide +kernel
theorem d10_2 : decode prog_5_method_11_code 2 = .ok (.iconst 1, 1) := by decide +kernel
theorem d10_3 : decode prog_5_method_11_code 3 = .ok (.if_icmp .gt 26, 3) := by decide +kernel
theorem d10_29 : decode prog_5_method_11_code 29 = .ok (.aload_n 0, 1) := by decide +kernel
theorem d10_30 : decode prog_5_method_11_code 30 = .ok (.arraylength, 1) := by decide +kernel
theorem d10_31 : decode prog_5_method_11_code 31 = .ok (.iconst 1, 1) := by decide +kernel
theorem d10_32 : decode prog_5_method_11_code 32 = .ok (.isub, 1) := by decide +kernel
theorem d10_33 : decode prog_5_method_11_code 33 = .ok (.istore_n 1, 1) := by decide +kernel
theorem d10_34 : decode prog_5_method_11_code 34 = .ok (.aload_n 0, 1) := by decide +kernel
theorem d10_35 : decode prog_5_method_11_code 35 = .ok (.iload_n 1, 1) := by decide +kernel
theorem d10_36 : decode prog_5_method_11_code 36 = .ok (.daload, 1) := by decide +kernel
theorem d10_37 : decode prog_5_method_11_code 37 = .ok (.dstore_n 2, 1) := by decide +kernel
theorem d10_38 : decode prog_5_method_11_code 38 = .ok (.dconst 0, 1) := by decide +kernel
theorem d10_39 : decode prog_5_method_11_code 39 = .ok (.dstore 4, 2) := by decide +kernel
theorem d10_41 : decode prog_5_method_11_code 41 = .ok (.dload 4, 2) := by decide +kernel
theorem d10_43 : decode prog_5_method_11_code 43 = .ok (.dconst 0, 1) := by decide +kernel
theorem d10_44 : decode prog_5_method_11_code 44 = .ok (.dcmp .l, 1) := by decide +kernel
theorem d10_45 : decode prog_5_method_11_code 45 = .ok (.ifCond .ne 34, 3) := by decide +kernel
theorem d10_48 : decode prog_5_method_11_code 48 = .ok (.iload_n 1, 1) := by decide +kernel
theorem d10_49 : decode prog_5_method_11_code 49 = .ok (.ifCond .le 30, 3) := by decide +kernel
theorem d10_52 : decode prog_5_method_11_code 52 = .ok (.iinc 1 (-1), 3) := by decide +kernel
theorem d10_55 : decode prog_5_method_11_code 55 = .ok (.dload_n 2, 1) := by decide +kernel
theorem d10_56 : decode prog_5_method_11_code 56 = .ok (.aload_n 0, 1) := by decide +kernel
theorem d10_57 : decode prog_5_method_11_code 57 = .ok (.iload_n 1, 1) := by decide +kernel
theorem d10_58 : decode prog_5_method_11_code 58 = .ok (.daload, 1) := by decide +kernel
theorem d10_59 : decode prog_5_method_11_code 59 = .ok (.dadd, 1) := by decide +kernel
theorem d10_60 : decode prog_5_method_11_code 60 = .ok (.dstore 6, 2) := by decide +kernel
theorem d10_62 : decode prog_5_method_11_code 62 = .ok (.dload_n 2, 1) := by decide +kernel
theorem d10_63 : decode prog_5_method_11_code 63 = .ok (.aload_n 0, 1) := by decide +kernel
theorem d10_64 : decode prog_5_method_11_code 64 = .ok (.iload_n 1, 1) := by decide +kernel
theorem d10_65 : decode prog_5_method_11_code 65 = .ok (.daload, 1) := by decide +kernel
theorem d10_66 : decode prog_5_method_11_code 66 = .ok (.dload 6, 2) := by decide +kernel
theorem d10_68 : decode prog_5_method_11_code 68 = .ok (.invokestatic 26, 3) := by decide +kernel
theorem d10_71 : decode prog_5_method_11_code 71 = .ok (.dstore 4, 2) := by decide +kernel
theorem d10_73 : decode prog_5_method_11_code 73 = .ok (.dload 6, 2) := by decide +kernel
theorem d10_75 : decode prog_5_method_11_code 75 = .ok (.dstore_n 2, 1) := by decide +kernel
theorem d10_76 : decode prog_5_method_11_code 76 = .ok (.goto (-35), 3) := by decide +kernel
theorem d10_79 : decode prog_5_method_11_code 79 = .ok (.dload 4, 2) := by decide +kernel
theorem d10_81 : decode prog_5_method_11_code 81 = .ok (.dconst 0, 1) := by decide +kernel
theorem d10_82 : decode prog_5_method_11_code 82 = .ok (.dcmp .l, 1) := by decide +kernel
theorem d10_83 : decode prog_5_method_11_code 83 = .ok (.ifCond .eq 51, 3) := by decide +kernel
theorem d10_86 : decode prog_5_method_11_code 86 = .ok (.iload_n 1, 1) := by decide +kernel
theorem d10_87 : decode prog_5_method_11_code 87 = .ok (.ifCond .le 47, 3) := by decide +kernel
theorem d10_90 : decode prog_5_method_11_code 90 = .ok (.dload 4, 2) := by decide +kernel
theorem d10_92 : decode prog_5_method_11_code 92 = .ok (.invokestatic 62, 3) := by decide +kernel
theorem d10_95 : decode prog_5_method_11_code 95 = .ok (.aload_n 0, 1) := by decide +kernel
theorem d10_96 : decode prog_5_method_11_code 96 = .ok (.iload_n 1, 1) := by decide +kernel
theorem d10_97 : decode prog_5_method_11_code 97 = .ok (.iconst 1, 1) := by decide +kernel
theorem d10_98 : decode prog_5_method_11_code 98 = .ok (.isub, 1) := by decide +kernel
theorem d10_99 : decode prog_5_method_11_code 99 = .ok (.daload, 1) := by decide +kernel
theorem d10_100 : decode prog_5_method_11_code 100 = .ok (.invokestatic 62, 3) := by decide +kernel
theorem d10_103 : decode prog_5_method_11_code 103 = .ok (.dcmp .l, 1) := by decide +kernel
theorem d10_104 : decode prog_5_method_11_code 104 = .ok (.ifCond .ne 30, 3) := by decide +kernel
theorem d10_134 : decode prog_5_method_11_code 134 = .ok (.new 8, 3) := by decide +kernel
theorem d10_137 : decode prog_5_method_11_code 137 = .ok (.dup, 1) := by decide +kernel
theorem d10_138 : decode prog_5_method_11_code 138 = .ok (.dload_n 2, 1) := by decide +kernel
theorem d10_139 : decode prog_5_method_11_code 139 = .ok (.aload_n 0, 1) := by decide +kernel
theorem d10_140 : decode prog_5_method_11_code 140 = .ok (.invokespecial 17, 3) := by decide +kernel
theorem d10_143 : decode prog_5_method_11_code 143 = .ok (.areturn, 1) := by decide +kernel
theorem d10_107 : decode prog_5_method_11_code 107 = .ok (.dload_n 2, 1) := by decide +kernel
theorem d10_108 : decode prog_5_method_11_code 108 = .ok (.ldc2_w 72, 3) := by decide +kernel
theorem nnc_4611686018427387904 : NoNaN64 4611686018427387904 := by unfold NoNaN64; decide
theorem d10_111 : decode prog_5_method_11_code 111 = .ok (.dload 4, 2) := by decide +kernel
theorem d10_113 : decode prog_5_method_11_code 113 = .ok (.dmul, 1) := by decide +kernel
theorem d10_114 : decode prog_5_method_11_code 114 = .ok (.dadd, 1) := by decide +kernel
theorem d10_115 : decode prog_5_method_11_code 115 = .ok (.dstore 6, 2) := by decide +kernel
theorem d10_117 : decode prog_5_method_11_code 117 = .ok (.dload 6, 2) := by decide +kernel
theorem d10_119 : decode prog_5_method_11_code 119 = .ok (.dload_n 2, 1) := by decide +kernel
theorem d10_120 : decode prog_5_method_11_code 120 = .ok (.dsub, 1) := by decide +kernel
theorem d10_121 : decode prog_5_method_11_code 121 = .ok (.ldc2_w 72, 3) := by decide +kernel
theorem d10_124 : decode prog_5_method_11_code 124 = .ok (.dload 4, 2) := by decide +kernel
theorem d10_126 : decode prog_5_method_11_code 126 = .ok (.dmul, 1) := by decide +kernel
theorem d10_127 : decode prog_5_method_11_code 127 = .ok (.dcmp .l, 1) := by decide +kernel
theorem d10_128 : decode prog_5_method_11_code 128 = .ok (.ifCond .ne 6, 3) := by decide +kernel
theorem d10_131 : decode prog_5_method_11_code 131 = .ok (.dload 6, 2) := by decide +kernel
theorem d10_133 : decode prog_5_method_11_code 133 = .ok (.dstore_n 2, 1) := by decide +kernel
theorem d13_0 : decode prog_6_method_4_code 0 = .ok (.aload_n 0, 1) := by decide +kernel
theorem d13_1 : decode prog_6_method_4_code 1 = .ok (.getfield 7, 3) := by decide +kernel
theorem d13_4 : decode prog_6_method_4_code 4 = .ok (.iload_n 1, 1) := by decide +kernel
theorem d13_5 : decode prog_6_method_4_code 5 = .ok (.aload_n 2, 1) := by decide +kernel
theorem d13_6 : decode prog_6_method_4_code 6 = .ok (.getfield 48, 3) := by decide +kernel
theorem d13_9 : decode prog_6_method_4_code 9 = .ok (.dastore, 1) := by decide +kernel
theorem d13_10 : decode prog_6_method_4_code 10 = .ok (.aload_n 0, 1) := by decide +kernel
theorem d13_11 : decode prog_6_method_4_code 11 = .ok (.getfield 13, 3) := by decide +kernel
theorem d13_14 : decode prog_6_method_4_code 14 = .ok (.iload_n 1, 1) := by decide +kernel
theorem d13_15 : decode prog_6_method_4_code 15 = .ok (.dconst 0, 1) := by decide +kernel
theorem d13_16 : decode prog_6_method_4_code 16 = .ok (.dastore, 1) := by decide +kernel
theorem d13_17 : decode prog_6_method_4_code 17 = .ok (.aload_n 0, 1) := by decide +kernel
theorem d13_18 : decode prog_6_method_4_code 18 = .ok (.getfield 18, 3) := by decide +kernel
theorem d13_21 : decode prog_6_method_4_code 21 = .ok (.iload_n 1, 1) := by decide +kernel
theorem d13_22 : decode prog_6_method_4_code 22 = .ok (.aload_n 2, 1) := by decide +kernel
theorem d13_23 : decode prog_6_method_4_code 23 = .ok (.getfield 52, 3) := by decide +kernel
theorem d13_26 : decode prog_6_method_4_code 26 = .ok (.ifnonnull 7, 3) := by decide +kernel
theorem d13_33 : decode prog_6_method_4_code 33 = .ok (.aload_n 2, 1) := by decide +kernel
theorem d13_34 : decode prog_6_method_4_code 34 = .ok (.aastore, 1) := by decide +kernel
theorem d13_35 : decode prog_6_method_4_code 35 = .ok (.return_, 1) := by decide +kernel
theorem d4_0 : decode prog_6_method_3_code 0 = .ok (.aload_n 0, 1) := by decide +kernel
theorem d4_1 : decode prog_6_method_3_code 1 = .ok (.getfield 7, 3) := by decide +kernel
theorem d4_4 : decode prog_6_method_3_code 4 = .ok (.iload_n 2, 1) := by decide +kernel
theorem d4_5 : decode prog_6_method_3_code 5 = .ok (.daload, 1) := by decide +kernel
theorem d4_6 : decode prog_6_method_3_code 6 = .ok (.dstore 5, 2) := by decide +kernel
theorem d4_8 : decode prog_6_method_3_code 8 = .ok (.aload_n 0, 1) := by decide +kernel
theorem d4_9 : decode prog_6_method_3_code 9 = .ok (.getfield 13, 3) := by decide +kernel
theorem d4_12 : decode prog_6_method_3_code 12 = .ok (.iload_n 2, 1) := by decide +kernel
theorem d4_13 : decode prog_6_method_3_code 13 = .ok (.daload, 1) := by decide +kernel
theorem d4_14 : decode prog_6_method_3_code 14 = .ok (.dstore 7, 2) := by decide +kernel
theorem d4_16 : decode prog_6_method_3_code 16 = .ok (.dload_n 3, 1) := by decide +kernel
theorem d4_17 : decode prog_6_method_3_code 17 = .ok (.dload 7, 2) := by decide +kernel
theorem d4_19 : decode prog_6_method_3_code 19 = .ok (.dadd, 1) := by decide +kernel
theorem d4_20 : decode prog_6_method_3_code 20 = .ok (.dstore 9, 2) := by decide +kernel
theorem d4_22 : decode prog_6_method_3_code 22 = .ok (.dload 9, 2) := by decide +kernel
theorem d4_24 : decode prog_6_method_3_code 24 = .ok (.dload 5, 2) := by decide +kernel
theorem d4_26 : decode prog_6_method_3_code 26 = .ok (.dadd, 1) := by decide +kernel
theorem d4_27 : decode prog_6_method_3_code 27 = .ok (.dstore 11, 2) := by decide +kernel
theorem d4_29 : decode prog_6_method_3_code 29 = .ok (.aload_n 0, 1) := by decide +kernel
theorem d4_30 : decode prog_6_method_3_code 30 = .ok (.getfield 18, 3) := by decide +kernel
theorem d4_33 : decode prog_6_method_3_code 33 = .ok (.iload_n 2, 1) := by decide +kernel
theorem d4_34 : decode prog_6_method_3_code 34 = .ok (.aaload, 1) := by decide +kernel
theorem d4_35 : decode prog_6_method_3_code 35 = .ok (.ifnonnull 11, 3) := by decide +kernel
theorem d4_38 : decode prog_6_method_3_code 38 = .ok (.dload 11, 2) := by decide +kernel
theorem d4_40 : decode prog_6_method_3_code 40 = .ok (.invokestatic 22, 3) := by decide +kernel
theorem d4_43 : decode prog_6_method_3_code 43 = .ok (.ifCond .ne 18, 3) := by decide +kernel
theorem d4_61 : decode prog_6_method_3_code 61 = .ok (.dload_n 3, 1) := by decide +kernel
theorem d4_62 : decode prog_6_method_3_code 62 = .ok (.dload 7, 2) := by decide +kernel
theorem d4_64 : decode prog_6_method_3_code 64 = .ok (.dload 9, 2) := by decide +kernel
theorem d4_66 : decode prog_6_method_3_code 66 = .ok (.invokestatic 40, 3) := by decide +kernel
theorem d4_69 : decode prog_6_method_3_code 69 = .ok (.dstore 13, 2) := by decide +kernel
theorem d4_71 : decode prog_6_method_3_code 71 = .ok (.dload 9, 2) := by decide +kernel
theorem d4_73 : decode prog_6_method_3_code 73 = .ok (.dload 5, 2) := by decide +kernel
theorem d4_75 : decode prog_6_method_3_code 75 = .ok (.dload 11, 2) := by decide +kernel
theorem d4_77 : decode prog_6_method_3_code 77 = .ok (.invokestatic 40, 3) := by decide +kernel
theorem d4_80 : decode prog_6_method_3_code 80 = .ok (.dstore 15, 2) := by decide +kernel
theorem d4_82 : decode prog_6_method_3_code 82 = .ok (.dload 13, 2) := by decide +kernel
theorem d4_84 : decode prog_6_method_3_code 84 = .ok (.dload 15, 2) := by decide +kernel
theorem d4_86 : decode prog_6_method_3_code 86 = .ok (.dadd, 1) := by decide +kernel
theorem d4_87 : decode prog_6_method_3_code 87 = .ok (.dstore 17, 2) := by decide +kernel
theorem d4_89 : decode prog_6_method_3_code 89 = .ok (.dload 13, 2) := by decide +kernel
theorem d4_91 : decode prog_6_method_3_code 91 = .ok (.dload 15, 2) := by decide +kernel
theorem d4_93 : decode prog_6_method_3_code 93 = .ok (.dload 17, 2) := by decide +kernel
theorem d4_95 : decode prog_6_method_3_code 95 = .ok (.invokestatic 40, 3) := by decide +kernel
theorem d4_98 : decode prog_6_method_3_code 98 = .ok (.dconst 0, 1) := by decide +kernel
theorem d4_99 : decode prog_6_method_3_code 99 = .ok (.dcmp .l, 1) := by decide +kernel
theorem d4_100 : decode prog_6_method_3_code 100 = .ok (.ifCond .eq 30, 3) := by decide +kernel
theorem d4_130 : decode prog_6_method_3_code 130 = .ok (.dload 11, 2) := by decide +kernel
theorem d4_132 : decode prog_6_method_3_code 132 = .ok (.dload 17, 2) := by decide +kernel
theorem d4_134 : decode prog_6_method_3_code 134 = .ok (.dadd, 1) := by decide +kernel
theorem d4_135 : decode prog_6_method_3_code 135 = .ok (.dstore 19, 2) := by decide +kernel
theorem d4_137 : decode prog_6_method_3_code 137 = .ok (.aload_n 0, 1) := by decide +kernel
theorem d4_138 : decode prog_6_method_3_code 138 = .ok (.getfield 7, 3) := by decide +kernel
theorem d4_141 : decode prog_6_method_3_code 141 = .ok (.iload_n 1, 1) := by decide +kernel
theorem d4_142 : decode prog_6_method_3_code 142 = .ok (.dload 19, 2) := by decide +kernel
theorem d4_144 : decode prog_6_method_3_code 144 = .ok (.dastore, 1) := by decide +kernel
theorem d4_145 : decode prog_6_method_3_code 145 = .ok (.aload_n 0, 1) := by decide +kernel
theorem d4_146 : decode prog_6_method_3_code 146 = .ok (.getfield 13, 3) := by decide +kernel
theorem d4_149 : decode prog_6_method_3_code 149 = .ok (.iload_n 1, 1) := by decide +kernel
theorem d4_150 : decode prog_6_method_3_code 150 = .ok (.dload 11, 2) := by decide +kernel
theorem d4_152 : decode prog_6_method_3_code 152 = .ok (.dload 17, 2) := by decide +kernel
theorem d4_154 : decode prog_6_method_3_code 154 = .ok (.dload 19, 2) := by decide +kernel
theorem d4_156 : decode prog_6_method_3_code 156 = .ok (.invokestatic 40, 3) := by decide +kernel
theorem d4_159 : decode prog_6_method_3_code 159 = .ok (.dastore, 1) := by decide +kernel
theorem d4_160 : decode prog_6_method_3_code 160 = .ok (.aload_n 0, 1) := by decide +kernel
theorem d4_161 : decode prog_6_method_3_code 161 = .ok (.getfield 18, 3) := by decide +kernel
theorem d4_164 : decode prog_6_method_3_code 164 = .ok (.iload_n 1, 1) := by decide +kernel
theorem d4_165 : decode prog_6_method_3_code 165 = .ok (.aconst_null, 1) := by decide +kernel
theorem d4_166 : decode prog_6_method_3_code 166 = .ok (.aastore, 1) := by decide +kernel
theorem d4_167 : decode prog_6_method_3_code 167 = .ok (.return_, 1) := by decide +kernel
theorem d4_103 : decode prog_6_method_3_code 103 = .ok (.aload_n 0, 1) := by decide +kernel
theorem d4_104 : decode prog_6_method_3_code 104 = .ok (.iload_n 1, 1) := by decide +kernel
theorem d4_105 : decode prog_6_method_3_code 105 = .ok (.iconst 3, 1) := by decide +kernel
theorem d4_106 : decode prog_6_method_3_code 106 = .ok (.newarray .double, 2) := by decide +kernel
theorem d4_108 : decode prog_6_method_3_code 108 = .ok (.dup, 1) := by decide +kernel
theorem d4_109 : decode prog_6_method_3_code 109 = .ok (.iconst 0, 1) := by decide +kernel
theorem d4_110 : decode prog_6_method_3_code 110 = .ok (.dload 13, 2) := by decide +kernel
theorem d4_112 : decode prog_6_method_3_code 112 = .ok (.dastore, 1) := by decide +kernel
theorem d4_113 : decode prog_6_method_3_code 113 = .ok (.dup, 1) := by decide +kernel
theorem d4_114 : decode prog_6_method_3_code 114 = .ok (.iconst 1, 1) := by decide +kernel
theorem d4_115 : decode prog_6_method_3_code 115 = .ok (.dload 15, 2) := by decide +kernel
theorem d4_117 : decode prog_6_method_3_code 117 = .ok (.dastore, 1) := by decide +kernel
theorem d4_118 : decode prog_6_method_3_code 118 = .ok (.dup, 1) := by decide +kernel
theorem d4_119 : decode prog_6_method_3_code 119 = .ok (.iconst 2, 1) := by decide +kernel
theorem d4_120 : decode prog_6_method_3_code 120 = .ok (.dload 11, 2) := by decide +kernel
theorem d4_122 : decode prog_6_method_3_code 122 = .ok (.dastore, 1) := by decide +kernel
theorem d4_123 : decode prog_6_method_3_code 123 = .ok (.invokestatic 44, 3) := by decide +kernel
theorem d4_126 : decode prog_6_method_3_code 126 = .ok (.invokevirtual 36, 3) := by decide +kernel
theorem d4_129 : decode prog_6_method_3_code 129 = .ok (.return_, 1) := by decide +kernel
theorem nnc_5147614374084476928 : NoNaN64 5147614374084476928 := by unfold NoNaN64; decide
theorem nnc_4066750463515557888 : NoNaN64 4066750463515557888 := by unfold NoNaN64; decide
theorem B_0 : Own.Bp 0 0 := Own.Bp.zero
theorem n_0 : NoNaN64 0 := Own.nn_0
theorem f_0 : Fin64 0 := Own.fin_0
theorem own_big {x : UInt64} (h : Own.Bp x 1400) : ¬ 2 ^ 1457 ≤ (Own.dz x).natAbs := by
  intro q
  have h1 := h.2.1
  have h2 := h.2.2
  have e1 : ((2 ^ 1400 : Nat) : Int) = 2 ^ 1400 := Int.natCast_pow 2 1400
  have k : (Own.dz x).natAbs ≤ 2 ^ 1400 := by omega
  exact absurd (Nat.le_trans q k) (Nat.not_le.mpr (Nat.pow_lt_pow_right (by decide) (by decide)))
theorem own_fp0 {sm e2 su1 er1 : UInt64} (B_sm : Own.Bp sm 1400) (B_e2 : Own.Bp e2 1400) (e1 : FP.dadd sm e2 = su1) (e2' : Own.re sm e2 su1 = er1) (h : Own.dz er1 = Own.dz 0) (t : Own.Tiny e2 sm) : Own.dz e2 = 0 := by
  have b1 := Own.Bp.add e1 B_sm B_e2 (by decide)
  have z1 := Own.tiny_add e1 (B_sm.mono (by decide)) (B_e2.mono (by decide)) t
  have z2 := Own.re_1 (B_sm.mono (by decide)) (B_e2.mono (by decide)) (b1.mono (by decide)) t z1
  rw [e2', h, Own.dz_0] at z2
  exact z2.symm
theorem own_fp1 {sm e2 su1 er1 d1 ou df d2 : UInt64} (B_sm : Own.Bp sm 1400) (B_e2 : Own.Bp e2 1400) (e1 : FP.dadd sm e2 = su1) (e2' : Own.re sm e2 su1 = er1) (e3 : FP.dmul 4611686018427387904 er1 = d1) (e4 : FP.dadd su1 d1 = ou) (e5 : FP.dsub ou su1 = df) (e6 : FP.dmul 4611686018427387904 er1 = d2) (h : Own.dz df = Own.dz d2) (t : Own.Tiny e2 sm) : Own.dz e2 = 0 := by
  have b1 := Own.Bp.add e1 B_sm B_e2 (by decide)
  have z1 := Own.tiny_add e1 (B_sm.mono (by decide)) (B_e2.mono (by decide)) t
  have z2 := Own.re_1 (B_sm.mono (by decide)) (B_e2.mono (by decide)) (b1.mono (by decide)) t z1
  have b2 := e2' ▸ Own.re_bp (j := 1401) (B_sm.mono (by decide)) (B_e2.mono (by decide)) b1 (by decide)
  rw [e2'] at z2
  obtain ⟨b3, y3⟩ := Own.dbl_bp e3 b2 (by decide)
  have e7 : d1 = d2 := e3.symm.trans e6
  subst e7
  refine Classical.byContradiction fun q => y3 (by omega) ?_
  rcases t with t | ⟨K, m, h1, h2, h3⟩
  · exact absurd t q
  · have h1' : Own.Bp er1 m := ⟨b2.1, by have := h1.2.1; omega, by have := h1.2.2; omega⟩
    by_cases hm : m ≤ 1400
    · have b4 := (Own.dbl_bp e3 h1' (by omega)).1
      have b5 := Own.Bp.add e4 (b1.mono (by decide : _ ≤ 1406)) b3 (by decide)
      have z4 : Own.dz ou = Own.dz su1 := Own.tiny_addK e4 (b1.mono (by decide)) (b3.mono (by decide)) b4 (by rw [z1]; exact h2) (by omega)
      have z5 := Own.sub_same e5 b5.1 b1.1 z4
      omega
    · have h4 := (Own.dbl_bp e3 (b2.mono (by decide : _ ≤ 1410)) (by decide)).1
      have b5 := Own.Bp.add e4 (b1.mono (by decide : _ ≤ 1406)) b3 (by decide)
      have k1 : 2 ^ 1457 ≤ (Own.dz sm).natAbs := Nat.le_trans (Nat.pow_le_pow_right (by decide) (by omega)) h2
      have z4 : Own.dz ou = Own.dz su1 := Own.tiny_add e4 (b1.mono (by decide)) (b3.mono (by decide)) (absurd k1 (own_big B_sm))
      have z5 := Own.sub_same e5 b5.1 b1.1 z4
      omega
theorem f_5147614374084476928 : Fin64 5147614374084476928 := by unfold Fin64; decide
theorem f_4066750463515557888 : Fin64 4066750463515557888 := by unfold Fin64; decide
theorem z_5147614374084476928 : Own.dz 5147614374084476928 = 2 ^ 1194 := by decide +kernel
theorem z_4066750463515557888 : Own.dz 4066750463515557888 = 2 ^ 954 := by decide +kernel
/-- a whole number times a power of two, as a double: exact, and how great -/
theorem own_mag {x : Int32} {d v C : UInt64} {j : Nat} (fC : Fin64 C) (zC : Own.dz C = 2 ^ j) (e0 : FP.i2d x = d) (e : FP.dmul d C = v) (hj : j + 31 ≤ 1330) : Own.Bp v (j + 31) ∧ (x.toInt = 0 → Own.dz v = 0) ∧ (x.toInt ≠ 0 → 2 ^ j ≤ (Own.dz v).natAbs) := by
  obtain ⟨fd, zd⟩ := Own.i2d_v e0
  have h1 := Int32.le_toInt x
  have h2 := Int32.toInt_lt x
  obtain ⟨V, fV, zV⟩ := Own.rep x.toInt j (by omega) (by omega)
  obtain ⟨f, z⟩ := Own.dmul_x e fd fC fV (by rw [zd, zC, zV]; generalize Own.U = u; ac_rfl)
  rw [zV] at z
  have p := Own.p2_pos j
  have k : (2 : Int) ^ (j + 31) = 2147483648 * 2 ^ j := by rw [Int.pow_add, Int.mul_comm]; rfl
  have a1 : x.toInt * 2 ^ j ≤ 2147483648 * 2 ^ j := Int.mul_le_mul_of_nonneg_right (by omega) (Int.le_of_lt p)
  have a2 : (-2147483648) * 2 ^ j ≤ x.toInt * 2 ^ j := Int.mul_le_mul_of_nonneg_right (by omega) (Int.le_of_lt p)
  rw [Int.neg_mul] at a2
  refine ⟨⟨f, by rw [z, k]; exact a2, by rw [z, k]; exact a1⟩, fun q => by rw [z, q, Int.zero_mul], fun q => ?_⟩
  rw [z, Int.natAbs_mul, Own.np]
  have := Nat.mul_le_mul_right (2 ^ j) (show 1 ≤ x.toInt.natAbs by omega)
  omega
theorem own_mid {x : Int32} {d : UInt64} (e0 : FP.i2d x = d) : (x.toInt = 0 → Own.dz d = 0) ∧ (x.toInt ≠ 0 → 2 ^ 1074 ≤ (Own.dz d).natAbs) := by
  obtain ⟨fd, zd⟩ := Own.i2d_v e0
  rw [zd, Own.U_p]
  refine ⟨fun q => by rw [q, Int.zero_mul], fun q => ?_⟩
  rw [Int.natAbs_mul, Own.np]
  have := Nat.mul_le_mul_right (2 ^ 1074) (show 1 ≤ x.toInt.natAbs by omega)
  omega
theorem own_nz {x : UInt64} {j : Nat} (h : 2 ^ j ≤ (Own.dz x).natAbs) : Own.dz x ≠ 0 := by
  have := Nat.two_pow_pos j
  omega
theorem own_cnt (A B C : Prop) [Decidable A] [Decidable B] [Decidable C] : (1 : Int) < ((Own.bo A + Own.bo B) + Own.bo C).toInt ↔ ((A ∧ B) ∨ (A ∧ C) ∨ (B ∧ C)) := by
  unfold Own.bo
  by_cases a : A <;> by_cases b : B <;> by_cases c : C <;> simp [a, b, c] <;> decide
section Plain
variable {x y z : Int32} {b m s v1 t1 v2 t2 w3 t3 : UInt64}
/-- what is known of the three numbers -/
def own_K (x y z : Int32) (b m s : UInt64) : Prop := (Own.Bp b 1225 ∧ (x.toInt = 0 → Own.dz b = 0) ∧ (x.toInt ≠ 0 → 2 ^ 1194 ≤ (Own.dz b).natAbs)) ∧ (Own.Bp m 1105 ∧ (y.toInt = 0 → Own.dz m = 0) ∧ (y.toInt ≠ 0 → 2 ^ 1074 ≤ (Own.dz m).natAbs)) ∧ (Own.Bp s 985 ∧ (z.toInt = 0 → Own.dz s = 0) ∧ (z.toInt ≠ 0 → 2 ^ 954 ≤ (Own.dz s).natAbs))
theorem own_mb (h : own_K x y z b m s) (q : x.toInt ≠ 0) : Own.Tiny m b := Or.inr ⟨1194, 1105, h.2.1.1, h.1.2.2 q, by decide⟩
theorem own_sb (h : own_K x y z b m s) (q : x.toInt ≠ 0) : Own.Tiny s b := Or.inr ⟨1194, 985, h.2.2.1, h.1.2.2 q, by decide⟩
theorem own_sm (h : own_K x y z b m s) (q : y.toInt ≠ 0) : Own.Tiny s m := Or.inr ⟨1074, 985, h.2.2.1, h.2.1.2.2 q, by decide⟩
/-- big, mid, small -/
theorem own_2a (h : own_K x y z b m s) (B1 : Own.Bp v1 1400) (B2 : Own.Bp t1 1400) (z1 : Own.dz v1 = Own.dz b) (z2 : Own.dz t1 = 0) : (x.toInt ≠ 0 → Own.dz (Own.VV m t1 v1) = Own.dz b ∧ Own.dz (Own.RR m t1 v1) = Own.dz m) ∧ (x.toInt = 0 → Own.dz (Own.VV m t1 v1) = Own.dz m ∧ Own.dz (Own.RR m t1 v1) = 0) := by
  refine ⟨fun q => ?_, fun q => ?_⟩
  · have := Own.ext0_a (h.2.1.1.mono (by decide)) (B2.mono (by decide)) (B1.mono (by decide)) z2 ((own_mb h q).big z1)
    exact ⟨by omega, by omega⟩
  · have b0 := h.1.2.1 q
    have := Own.ext0_b (h.2.1.1.mono (by decide)) (B2.mono (by decide)) (B1.mono (by decide)) z2 (Or.inl (z1.trans b0))
    exact ⟨by omega, by omega⟩
theorem own_2b (h : own_K x y z b m s) (B1 : Own.Bp v1 1400) (B2 : Own.Bp t1 1400) (z1 : Own.dz v1 = Own.dz s) (z2 : Own.dz t1 = 0) : (y.toInt ≠ 0 → Own.dz (Own.VV m t1 v1) = Own.dz m ∧ Own.dz (Own.RR m t1 v1) = Own.dz s) ∧ (y.toInt = 0 → Own.dz (Own.VV m t1 v1) = Own.dz s ∧ Own.dz (Own.RR m t1 v1) = 0) := by
  refine ⟨fun q => ?_, fun q => ?_⟩
  · have := Own.ext0_b (h.2.1.1.mono (by decide)) (B2.mono (by decide)) (B1.mono (by decide)) z2 ((own_sm h q).small B1.1 z1)
    exact ⟨by omega, by omega⟩
  · have m0 := h.2.1.2.1 q
    have := Own.ext0_a (h.2.1.1.mono (by decide)) (B2.mono (by decide)) (B1.mono (by decide)) z2 (Or.inl m0)
    exact ⟨by omega, by omega⟩
/-- what the answer is in the end -/
def own_A (x y z : Int32) (b m s w3 : UInt64) : Prop := (x.toInt ≠ 0 → Own.dz w3 = Own.dz b) ∧ (x.toInt = 0 → y.toInt ≠ 0 → Own.dz w3 = Own.dz m) ∧ (x.toInt = 0 → y.toInt = 0 → Own.dz w3 = Own.dz s)
theorem own_3a (h : own_K x y z b m s) (B1 : Own.Bp v2 1400) (B2 : Own.Bp t2 1400) (k : (x.toInt ≠ 0 → Own.dz v2 = Own.dz b ∧ Own.dz t2 = Own.dz m) ∧ (x.toInt = 0 → Own.dz v2 = Own.dz m ∧ Own.dz t2 = 0)) :
    (Own.dz (Own.XX s t2 v2) = 0 → own_A x y z b m s (Own.VV s t2 v2) ∧ (Own.dz (Own.RR s t2 v2) = 0 ↔ ¬ ((x.toInt ≠ 0 ∧ y.toInt ≠ 0) ∨ (x.toInt ≠ 0 ∧ z.toInt ≠ 0) ∨ (y.toInt ≠ 0 ∧ z.toInt ≠ 0)))) ∧
    (Own.dz (Own.XX s t2 v2) ≠ 0 → (x.toInt ≠ 0 ∧ y.toInt ≠ 0 ∧ z.toInt ≠ 0) ∧ Own.Tiny (Own.E2 s t2 v2) (Own.S1 s t2 v2) ∧ Own.dz (Own.E2 s t2 v2) ≠ 0 ∧ Own.dz (Own.S1 s t2 v2) = Own.dz b) := by
  have Bs := h.2.2.1.mono (show _ ≤ 1700 by decide)
  have B1' := B1.mono (show _ ≤ 1700 by decide)
  have B2' := B2.mono (show _ ≤ 1700 by decide)
  have s0 := h.2.2.2.1
  have s1 : z.toInt ≠ 0 → Own.dz s ≠ 0 := fun q => own_nz (h.2.2.2.2 q)
  have m1 : y.toInt ≠ 0 → Own.dz m ≠ 0 := fun q => own_nz (h.2.1.2.2 q)
  have m0 := h.2.1.2.1
  unfold own_A
  by_cases qx : x.toInt = 0
  · obtain ⟨k1, k2⟩ := k.2 qx
    have zx := (Own.ext0 Bs B2' B1' k2).2.2.2
    by_cases qy : y.toInt = 0
    · have := Own.ext0_b Bs B2' B1' k2 (Or.inl (k1.trans (m0 qy)))
      have := m0 qy
      exact ⟨fun _ => ⟨⟨fun q => absurd qx q, fun _ q => absurd qy q, fun _ _ => by omega⟩, by omega⟩, fun q => absurd zx q⟩
    · have := Own.ext0_a Bs B2' B1' k2 ((own_sm h qy).big k1)
      by_cases qz : z.toInt = 0
      · have := s0 qz
        exact ⟨fun _ => ⟨⟨fun q => absurd qx q, fun _ _ => by omega, fun _ q => absurd q qy⟩, by omega⟩, fun q => absurd zx q⟩
      · have := s1 qz
        exact ⟨fun _ => ⟨⟨fun q => absurd qx q, fun _ _ => by omega, fun _ q => absurd q qy⟩, by omega⟩, fun q => absurd zx q⟩
  · obtain ⟨k1, k2⟩ := k.1 qx
    by_cases qy : y.toInt = 0
    · have k3 := k2.trans (m0 qy)
      have zx := (Own.ext0 Bs B2' B1' k3).2.2.2
      have := Own.ext0_a Bs B2' B1' k3 ((own_sb h qx).big k1)
      by_cases qz : z.toInt = 0
      · have := s0 qz
        exact ⟨fun _ => ⟨⟨fun _ => by omega, fun q => absurd q qx, fun q => absurd q qx⟩, by omega⟩, fun q => absurd zx q⟩
      · have := s1 qz
        exact ⟨fun _ => ⟨⟨fun _ => by omega, fun q => absurd q qx, fun q => absurd q qx⟩, by omega⟩, fun q => absurd zx q⟩
    · obtain ⟨a1, a2, a3, a4, a5, a6⟩ := Own.ext3_a Bs B2' B1' ((own_sm h qy).big k2) (((own_mb h qx).small B2.1 k2).big k1)
      have := m1 qy
      refine ⟨fun zx => ⟨⟨fun _ => by omega, fun q => absurd q qx, fun q => absurd q qx⟩, ?_⟩, fun zx => ⟨⟨qx, qy, fun q => zx (a3.trans (s0 q))⟩, a4, by omega, by omega⟩⟩
      have qz : z.toInt = 0 := Classical.byContradiction fun q => s1 q (by omega)
      omega
theorem own_3b (h : own_K x y z b m s) (B1 : Own.Bp v2 1400) (B2 : Own.Bp t2 1400) (k : (y.toInt ≠ 0 → Own.dz v2 = Own.dz m ∧ Own.dz t2 = Own.dz s) ∧ (y.toInt = 0 → Own.dz v2 = Own.dz s ∧ Own.dz t2 = 0)) :
    (Own.dz (Own.XX b t2 v2) = 0 → own_A x y z b m s (Own.VV b t2 v2) ∧ (Own.dz (Own.RR b t2 v2) = 0 ↔ ¬ ((x.toInt ≠ 0 ∧ y.toInt ≠ 0) ∨ (x.toInt ≠ 0 ∧ z.toInt ≠ 0) ∨ (y.toInt ≠ 0 ∧ z.toInt ≠ 0)))) ∧
    (Own.dz (Own.XX b t2 v2) ≠ 0 → (x.toInt ≠ 0 ∧ y.toInt ≠ 0 ∧ z.toInt ≠ 0) ∧ Own.Tiny (Own.E2 b t2 v2) (Own.S1 b t2 v2) ∧ Own.dz (Own.E2 b t2 v2) ≠ 0 ∧ Own.dz (Own.S1 b t2 v2) = Own.dz b) := by
  have Bb := h.1.1.mono (show _ ≤ 1700 by decide)
  have B1' := B1.mono (show _ ≤ 1700 by decide)
  have B2' := B2.mono (show _ ≤ 1700 by decide)
  have s0 := h.2.2.2.1
  have s1 : z.toInt ≠ 0 → Own.dz s ≠ 0 := fun q => own_nz (h.2.2.2.2 q)
  have m1 : y.toInt ≠ 0 → Own.dz m ≠ 0 := fun q => own_nz (h.2.1.2.2 q)
  have m0 := h.2.1.2.1
  have b0 := h.1.2.1
  unfold own_A
  by_cases qy : y.toInt = 0
  · obtain ⟨k1, k2⟩ := k.2 qy
    have zx := (Own.ext0 Bb B2' B1' k2).2.2.2
    by_cases qx : x.toInt = 0
    · have := Own.ext0_a Bb B2' B1' k2 (Or.inl (b0 qx))
      have := b0 qx
      exact ⟨fun _ => ⟨⟨fun q => absurd qx q, fun _ q => absurd qy q, fun _ _ => by omega⟩, by omega⟩, fun q => absurd zx q⟩
    · have := Own.ext0_b Bb B2' B1' k2 ((own_sb h qx).small B1.1 k1)
      by_cases qz : z.toInt = 0
      · have := s0 qz
        exact ⟨fun _ => ⟨⟨fun _ => by omega, fun q => absurd q qx, fun q => absurd q qx⟩, by omega⟩, fun q => absurd zx q⟩
      · have := s1 qz
        exact ⟨fun _ => ⟨⟨fun _ => by omega, fun q => absurd q qx, fun q => absurd q qx⟩, by omega⟩, fun q => absurd zx q⟩
  · obtain ⟨k1, k2⟩ := k.1 qy
    have := m1 qy
    by_cases qx : x.toInt = 0
    · obtain ⟨a1, a2, a3, a4, a5, a6⟩ := Own.ext3_a Bb B2' B1' (Or.inl (b0 qx)) (((own_sm h qy).small B2.1 k2).big k1)
      have := b0 qx
      refine ⟨fun _ => ⟨⟨fun q => absurd qx q, fun _ _ => by omega, fun _ q => absurd q qy⟩, ?_⟩, fun q => absurd (a3.trans (b0 qx)) q⟩
      by_cases qz : z.toInt = 0
      · have := s0 qz
        omega
      · have := s1 qz
        omega
    · by_cases qz : z.toInt = 0
      · have k3 := k2.trans (s0 qz)
        have zx := (Own.ext0 Bb B2' B1' k3).2.2.2
        have := Own.ext0_b Bb B2' B1' k3 ((own_mb h qx).small B1.1 k1)
        exact ⟨fun _ => ⟨⟨fun _ => by omega, fun q => absurd q qx, fun q => absurd q qx⟩, by omega⟩, fun q => absurd zx q⟩
      · obtain ⟨a1, a2, a3, a4⟩ := Own.ext3_b Bb B2' B1' ((own_sb h qx).small B2.1 k2) ((own_mb h qx).small B1.1 k1) (((own_sm h qy).small B2.1 k2).big k1)
        have := s1 qz
        exact ⟨fun q => absurd q (by omega), fun _ => ⟨⟨qx, qy, qz⟩, a4, by omega, a1⟩⟩
theorem own_x2a (h : own_K x y z b m s) (k : (x.toInt ≠ 0 → Own.dz v2 = Own.dz b ∧ Own.dz t2 = Own.dz m) ∧ (x.toInt = 0 → Own.dz v2 = Own.dz m ∧ Own.dz t2 = 0)) : Own.dz t2 = 0 ↔ ¬ (¬ (x.toInt = 0)) ∨ (¬ (¬ (y.toInt = 0))) := by
  have m1 : y.toInt ≠ 0 → Own.dz m ≠ 0 := fun q => own_nz (h.2.1.2.2 q)
  have m0 := h.2.1.2.1
  by_cases qx : x.toInt = 0
  · exact ⟨fun _ => Or.inl (fun q => q qx), fun _ => (k.2 qx).2⟩
  · have e := (k.1 qx).2
    by_cases qy : y.toInt = 0
    · exact ⟨fun _ => Or.inr (fun q => q qy), fun _ => e.trans (m0 qy)⟩
    · exact ⟨fun q => absurd (e.symm.trans q) (m1 qy), fun q => q.elim (fun w => absurd qx w) (fun w => absurd qy w)⟩
theorem own_x2b (h : own_K x y z b m s) (k : (y.toInt ≠ 0 → Own.dz v2 = Own.dz m ∧ Own.dz t2 = Own.dz s) ∧ (y.toInt = 0 → Own.dz v2 = Own.dz s ∧ Own.dz t2 = 0)) : Own.dz t2 = 0 ↔ ¬ (¬ (z.toInt = 0)) ∨ (¬ (¬ (y.toInt = 0))) := by
  have s1 : z.toInt ≠ 0 → Own.dz s ≠ 0 := fun q => own_nz (h.2.2.2.2 q)
  have s0 := h.2.2.2.1
  by_cases qy : y.toInt = 0
  · exact ⟨fun _ => Or.inr (fun q => q qy), fun _ => (k.2 qy).2⟩
  · have e := (k.1 qy).2
    by_cases qz : z.toInt = 0
    · exact ⟨fun _ => Or.inl (fun q => q qz), fun _ => e.trans (s0 qz)⟩
    · exact ⟨fun q => absurd (e.symm.trans q) (s1 qz), fun q => q.elim (fun w => absurd qz w) (fun w => absurd qy w)⟩
theorem own_end {xp : UInt64} (g : own_A x y z b m s w3) (k : (x.toInt ≠ 0 → Own.dz xp = Own.dz b) ∧ (x.toInt = 0 → y.toInt ≠ 0 → Own.dz xp = Own.dz m) ∧ (x.toInt = 0 → y.toInt = 0 → Own.dz xp = Own.dz s)) : Own.dz w3 = Own.dz xp := by
  by_cases qx : x.toInt = 0
  · by_cases qy : y.toInt = 0
    · exact (g.2.2 qx qy).trans (k.2.2 qx qy).symm
    · exact (g.2.1 qx qy).trans (k.2.1 qx qy).symm
  · exact (g.1 qx).trans (k.1 qx).symm
end Plain

theorem ef_5 (m : MethodId) (x0 : UInt64) : entryFrame m #[.double x0] 2 = mkF m 0 #[.val (.double x0), .second] [] := by first | (simp [entryFrame, mkF, argsToLocals, Value.category, maxLocals]; done) | rfl
set_option maxRecDepth 65536 in
set_option maxHeartbeats 40000000 in
theorem rm5 (l : Launch) (Z : State) (a0 : Array Value) (hw : ∀ d ∈ tables_1, d.before a0 Z = true) (u : UInt64)   (h0 : Heap) (n0 : Nat) (Z0 : n0 ≤ h0.size)  (f_u : Fin64 u) :
    Own.Con l Z mn_1 [] jdk_117_method_8_code 2 (some .boolean) ({ frames := 1, cells := 0, slots := 0, locals := 13 } : Room) #[.double u] h0 n0 (fun v h => v = some (.int 1) ∧ h0 = h) := by
  refine Own.enter (own := "java/lang/Double") (nm := "isFinite") (plainFor_of_name pn_java_lang_Double) rfl rfl (fun m => ef_5 m u) fun p e s m below meth c T X => ?_
  refine Own.dloadN X d5_0 rfl ?_
  have n_u := f_u.noNaN
  refine Own.absD_ X d5_1 (Own.wd hw 34 rfl) (Own.wd hw 35 rfl) (Own.wd hw 36 rfl) (Own.wd hw 37 rfl) n_u (lenOf pd_0 rfl) rfl (W := 0) (Nat.le_of_eq rfl) (by decide) (by decide) (by decide) (by decide) fun T1 X1 => ?_
  show Own.Go p e below s n0 _ _ _ (T1.setTop (mkF m 4 _ [.double (u &&& 0x7fffffffffffffff)]))
  refine Own.ldc2D X1 d5_4 (Own.wd hw 38 rfl) ?_
  refine Own.dcmpF X1 (pc' := 15) d5_7 d5_8 (by decide) (abs_fin f_u).noNaN nnc_9218868437227405311 (fun q => absurd (show Own.dz 9218868437227405311 < Own.dz (u &&& 0x7fffffffffffffff) from q) (show ¬ (Own.dz 9218868437227405311 < Own.dz (u &&& 0x7fffffffffffffff)) from fun q => absurd q (by have := Own.abs_max f_u; omega))) (fun _ => ?_)
  refine Own.iconst X1 (v := 1) d5_11 rfl ?_
  refine Own.goto_ X1 (pc' := 16) d5_12 (by decide) ?_
  exact Own.retB X1 d5_16 (by decide) ⟨rfl, rfl⟩ (by decide) (by decide)
theorem ef_7 (m : MethodId) (x0 : UInt64) (x1 : UInt64) (x2 : UInt64) : entryFrame m #[.double x0, .double x1, .double x2] 10 = mkF m 0 #[.val (.double x0), .second, .val (.double x1), .second, .val (.double x2), .second, .unset, .unset, .unset, .unset] [] := by first | (simp [entryFrame, mkF, argsToLocals, Value.category, maxLocals]; done) | rfl
set_option maxRecDepth 65536 in
set_option maxHeartbeats 40000000 in
theorem rm7 (l : Launch) (Z : State) (a0 : Array Value) (hw : ∀ d ∈ tables_1, d.before a0 Z = true) (u : UInt64) (w : UInt64) (q : UInt64)   (h0 : Heap) (n0 : Nat) (Z0 : n0 ≤ h0.size)  (B_u : Own.Bp u 1600) (B_w : Own.Bp w 1600) (B_q : Own.Bp q 1600) :
    Own.Con l Z mn_2 [] prog_5_method_9_code 10 (some .double) ({ frames := 0, cells := 0, slots := 0, locals := 0 } : Room) #[.double u, .double w, .double q] h0 n0 (fun v h => v = some (.double (Own.re u w q)) ∧ h0 = h) := by
  refine Own.enter (own := "com/example/rainyday/rainyday/ExactSum") (nm := "roundingError") (plainFor_of_name pn_com_example_rainyday_rainyday_ExactSum) rfl rfl (fun m => ef_7 m u w q) fun p e s m below meth c T X => ?_
  refine Own.dload X d7_0 rfl ?_
  refine Own.dloadN X d7_2 rfl ?_
  obtain ⟨d3, e_d3⟩ : ∃ v, FP.dsub q u = v := ⟨_, rfl⟩
  have B_d3 := Own.Bp.sub e_d3 (B_q.mono (by decide : _ ≤ (1600 : Nat))) (B_u.mono (by decide : _ ≤ (1600 : Nat))) (by decide)
  have n_d3 := B_d3.nn
  have f_d3 := B_d3.1
  refine Own.dsub X d7_3 e_d3 n_d3 ?_
  refine Own.dstore X d7_4 (l' := #[.val (.double u), .second, .val (.double w), .second, .val (.double q), .second, .val (.double d3), .second, .unset, .unset]) rfl ?_
  refine Own.dload X d7_6 rfl ?_
  refine Own.dload X d7_8 rfl ?_
  obtain ⟨d10, e_d10⟩ : ∃ v, FP.dsub q d3 = v := ⟨_, rfl⟩
  have B_d10 := Own.Bp.sub e_d10 (B_q.mono (by decide : _ ≤ (1601 : Nat))) (B_d3.mono (by decide : _ ≤ (1601 : Nat))) (by decide)
  have n_d10 := B_d10.nn
  have f_d10 := B_d10.1
  refine Own.dsub X d7_10 e_d10 n_d10 ?_
  refine Own.dstore X d7_11 (l' := #[.val (.double u), .second, .val (.double w), .second, .val (.double q), .second, .val (.double d3), .second, .val (.double d10), .second]) rfl ?_
  refine Own.dloadN X d7_13 rfl ?_
  refine Own.dload X d7_14 rfl ?_
  obtain ⟨d16, e_d16⟩ : ∃ v, FP.dsub u d10 = v := ⟨_, rfl⟩
  have B_d16 := Own.Bp.sub e_d16 (B_u.mono (by decide : _ ≤ (1602 : Nat))) (B_d10.mono (by decide : _ ≤ (1602 : Nat))) (by decide)
  have n_d16 := B_d16.nn
  have f_d16 := B_d16.1
  refine Own.dsub X d7_16 e_d16 n_d16 ?_
  refine Own.dloadN X d7_17 rfl ?_
  refine Own.dload X d7_18 rfl ?_
  obtain ⟨d20, e_d20⟩ : ∃ v, FP.dsub w d3 = v := ⟨_, rfl⟩
  have B_d20 := Own.Bp.sub e_d20 (B_w.mono (by decide : _ ≤ (1601 : Nat))) (B_d3.mono (by decide : _ ≤ (1601 : Nat))) (by decide)
  have n_d20 := B_d20.nn
  have f_d20 := B_d20.1
  refine Own.dsub X d7_20 e_d20 n_d20 ?_
  obtain ⟨d21, e_d21⟩ : ∃ v, FP.dadd d16 d20 = v := ⟨_, rfl⟩
  have B_d21 := Own.Bp.add e_d21 (B_d16.mono (by decide : _ ≤ (1603 : Nat))) (B_d20.mono (by decide : _ ≤ (1603 : Nat))) (by decide)
  have n_d21 := B_d21.nn
  have f_d21 := B_d21.1
  refine Own.dadd X d7_21 e_d21 n_d21 ?_
  exact Own.retD X d7_22 ⟨by subst e_d3 e_d10 e_d16 e_d20 e_d21; rfl, rfl⟩ (by decide) (by decide)
theorem ef_12 (m : MethodId) (x0 : Addr) (x1 : UInt64) (x2 : Addr) : entryFrame m #[.ref x0, .double x1, .ref x2] 4 = mkF m 0 #[.val (.ref x0), .val (.double x1), .second, .val (.ref x2)] [] := by first | (simp [entryFrame, mkF, argsToLocals, Value.category, maxLocals]; done) | rfl
set_option maxRecDepth 65536 in
set_option maxHeartbeats 40000000 in
theorem rm12 (l : Launch) (Z : State) (a0 : Array Value) (hw : ∀ d ∈ tables_1, d.before a0 Z = true) (a : Addr) (p1 : UInt64) (p2 : Addr)  (h0 : Heap) (n0 : Nat) (Z0 : n0 ≤ h0.size) (ga : n0 ≤ a) (Ea : Exa Z h0 a "com/example/rainyday/rainyday/ExactSum") (F0_value : Fld Z h0 a "com/example/rainyday/rainyday/ExactSum" "value" "D" (.double 0)) (F0_parts : Fld Z h0 a "com/example/rainyday/rainyday/ExactSum" "parts" "[D" (.null))  :
    Own.Con l Z mn_3 [] prog_5_method_1_code 4 none ({ frames := 1, cells := 0, slots := 0, locals := 12 } : Room) #[.ref a, .double p1, .ref p2] h0 n0 (fun v h => v = none ∧ Keep h0 h [a] ∧ Fld Z h a "com/example/rainyday/rainyday/ExactSum" "value" "D" (.double p1) ∧ Fld Z h a "com/example/rainyday/rainyday/ExactSum" "parts" "[D" (.ref p2)) := by
  refine Own.enter (own := "com/example/rainyday/rainyday/ExactSum") (nm := "<init>") (plainFor_of_name pn_com_example_rainyday_rainyday_ExactSum) rfl rfl (fun m => ef_12 m a p1 p2) fun p e s m below meth c T X => ?_
  refine Own.aloadN X d12_0 rfl rfl ?_
  refine Own.initO_ X d12_1 (Own.wd hw 66 rfl) (Own.wd hw 9 rfl) (Own.wd hw 10 rfl) rfl (W := 0) (by decide) (Nat.le_of_eq rfl) (by decide) fun T1 X1 => ?_
  refine Own.aloadN X1 d12_4 rfl rfl ?_
  refine Own.dloadN X1 d12_5 rfl ?_
  refine Own.putF_ X1 d12_6 (host := "") (Or.inl (Own.wd hw 67 rfl)) Via.refl F0_value Ea (Or.inr ⟨(Own.wd hw 68 rfl), rfl, rfl⟩) (Own.wd hw 62 rfl) (ty := .double) (by decide) rfl rfl ga fun T2 h2 X2 W2 => ?_
  have F3 := Ea.wr W2
  have F4 := (Keep.refl h0 [a]).wr W2 (Or.inl (List.mem_of_getElem? (i := 0) rfl))
  have F5 := F0_parts.other W2 (Or.inr (slot_ne (Or.inr (Own.wd hw 70 rfl)) (Or.inr (Own.wd hw 68 rfl)) (by decide) (t := (.array .double)) (t' := .double) (by decide) (by decide)))
  have F6 : Fld Z h2 a "com/example/rainyday/rainyday/ExactSum" "value" "D" (.double p1) := Fld.same W2 F0_value
  have Z7 : n0 ≤ h2.size := by rw [W2.size]; exact Z0
  refine Own.aloadN X2 d12_9 rfl rfl ?_
  refine Own.aloadN X2 d12_10 rfl rfl ?_
  refine Own.putF_ X2 d12_11 (host := "") (Or.inl (Own.wd hw 69 rfl)) Via.refl F5 F3 (Or.inr ⟨(Own.wd hw 70 rfl), rfl, rfl⟩) (Own.wd hw 62 rfl) (ty := (.array .double)) (by decide) rfl rfl ga fun T8 h8 X8 W8 => ?_
  have F9 := F3.wr W8
  have F10 := F4.wr W8 (Or.inl (List.mem_of_getElem? (i := 0) rfl))
  have F11 := F6.other W8 (Or.inr (slot_ne (Or.inr (Own.wd hw 68 rfl)) (Or.inr (Own.wd hw 70 rfl)) (by decide) (t := .double) (t' := (.array .double)) (by decide) (by decide)))
  have F12 : Fld Z h8 a "com/example/rainyday/rainyday/ExactSum" "parts" "[D" (.ref p2) := Fld.same W8 F5
  have Z13 : n0 ≤ h8.size := by rw [W8.size]; exact Z7
  exact Own.retV X8 d12_14 ⟨rfl, F10, F11, F12⟩ (by decide) (by decide)
theorem ef_1 (m : MethodId) (x0 : Addr) (x1 : Int32) : entryFrame m #[.ref x0, .int x1] 2 = mkF m 0 #[.val (.ref x0), .val (.int x1)] [] := by first | (simp [entryFrame, mkF, argsToLocals, Value.category, maxLocals]; done) | rfl
set_option maxRecDepth 65536 in
set_option maxHeartbeats 40000000 in
theorem rm1 (l : Launch) (Z : State) (a0 : Array Value) (hw : ∀ d ∈ tables_1, d.before a0 Z = true) (a : Addr) (h0 : Heap) (n0 : Nat) (Z0 : n0 ≤ h0.size) (f0 : Exa Z h0 a "com/example/rainyday/rainyday/ExactSum$TreeSums") (f1 : Fld Z h0 a "com/example/rainyday/rainyday/ExactSum$TreeSums" "rounded" "[D" (.null)) (f2 : Fld Z h0 a "com/example/rainyday/rainyday/ExactSum$TreeSums" "rest" "[D" (.null)) (f3 : Fld Z h0 a "com/example/rainyday/rainyday/ExactSum$TreeSums" "wider" "[Lcom/example/rainyday/rainyday/ExactSum;" (.null)) (w0 : n0 ≤ a)  :
    Own.Con l Z mn_4 [] prog_6_method_1_code 2 none ({ frames := 1, cells := 3, slots := 12, locals := 12 } : Room) #[.ref a, .int (4 : Int32)] h0 n0 (fun v h => ∃ (ra : Addr) (rb : Addr) (rc : Addr) (k_ra : ClassId) (k_rb : ClassId) (k_rc : ClassId), v = none ∧ Keep h0 h [a] ∧ h0.size ≤ ra ∧ h0.size ≤ rb ∧ h0.size ≤ rc ∧ ra ≠ rb ∧ ra ≠ rc ∧ rb ≠ rc ∧ Fld Z h a "com/example/rainyday/rainyday/ExactSum$TreeSums" "rounded" "[D" (.ref ra) ∧ Fld Z h a "com/example/rainyday/rainyday/ExactSum$TreeSums" "rest" "[D" (.ref rb) ∧ Fld Z h a "com/example/rainyday/rainyday/ExactSum$TreeSums" "wider" "[Lcom/example/rainyday/rainyday/ExactSum;" (.ref rc) ∧ Arv Z h ra k_ra .double (4 : Int32) [.double 0, .double 0, .double 0, .double 0] (.double 0) ∧ Arv Z h rb k_rb .double (4 : Int32) [.double 0, .double 0, .double 0, .double 0] (.double 0) ∧ Arv Z h rc k_rc (.object "com/example/rainyday/rainyday/ExactSum") (4 : Int32) [.null, .null, .null, .null] (.null) ∧ Ovr Z k_rc "com/example/rainyday/rainyday/ExactSum") := by
  refine Own.enter (own := "com/example/rainyday/rainyday/ExactSum$TreeSums") (nm := "<init>") (plainFor_of_name pn_com_example_rainyday_rainyday_ExactSum_TreeSums) rfl rfl (fun m => ef_1 m a (4 : Int32)) fun p e s m below meth c T X => ?_
  refine Own.aloadN X d1_0 rfl rfl ?_
  refine Own.initO_ X d1_1 (Own.wd hw 8 rfl) (Own.wd hw 9 rfl) (Own.wd hw 10 rfl) rfl (W := 0) (by decide) (Nat.le_of_eq rfl) (by decide) fun T1 X1 => ?_
  refine Own.aloadN X1 d1_4 rfl rfl ?_
  refine Own.iloadN X1 d1_5 rfl ?_
  refine Own.newP_ X1 (cap := 4) (ty := .double) (dv := .double 0) (ad := "[D") d1_6 rfl rfl (by decide) (Own.wd hw 11 rfl) (by decide) (by decide) (by decide) (by decide) (by decide) fun T2 h2 ra k_ra g_ra X2 E2 V2 A2 => ?_
  have ne3 : a ≠ ra := Nat.ne_of_lt (Nat.lt_of_lt_of_le f0.lt (Nat.le_of_eq g_ra.symm))
  have fr4 : n0 ≤ ra := Nat.le_trans Z0 (Nat.le_of_eq g_ra.symm)
  have bn5 : h0.size ≤ ra := Nat.le_trans (Keep.refl h0 [a]).1 (Nat.le_of_eq g_ra.symm)
  have F6 := f0.ext E2
  have F7 := f1.ext E2
  have F8 := f2.ext E2
  have F9 := f3.ext E2
  have F10 := (Keep.refl h0 [a]).ext E2
  have Z11 : n0 ≤ h2.size := Nat.le_trans Z0 E2.1
  have V12 : Arv Z h2 ra k_ra .double (4 : Int32) [.double 0, .double 0, .double 0, .double 0] (.double 0) := V2.pad (pad_rep [] (.double 0) 4)
  refine Own.putF_ X2 d1_8 (host := "") (Or.inl (Own.wd hw 12 rfl)) Via.refl F7 F6 (Or.inr ⟨(Own.wd hw 13 rfl), rfl, rfl⟩) (Own.wd hw 3 rfl) (ty := (.array .double)) (by decide) rfl rfl w0 fun T13 h13 X13 W13 => ?_
  have F14 := F6.wr W13
  have F15 := F8.other W13 (Or.inr (slot_ne (Or.inr (Own.wd hw 15 rfl)) (Or.inr (Own.wd hw 13 rfl)) (by decide) (t := (.array .double)) (t' := (.array .double)) (by decide) (by decide)))
  have F16 := F9.other W13 (Or.inr (slot_ne (Or.inr (Own.wd hw 19 rfl)) (Or.inr (Own.wd hw 13 rfl)) (by decide) (t := (.array (.object "com/example/rainyday/rainyday/ExactSum"))) (t' := (.array .double)) (by decide) (by decide)))
  have F17 := F10.wr W13 (Or.inl (List.mem_of_getElem? (i := 0) rfl))
  have F18 := A2.wr W13
  have F19 := V12.other W13 (Ne.symm ne3)
  have F20 : Fld Z h13 a "com/example/rainyday/rainyday/ExactSum$TreeSums" "rounded" "[D" (.ref ra) := Fld.same W13 F7
  have Z21 : n0 ≤ h13.size := by rw [W13.size]; exact Z11
  refine Own.aloadN X13 d1_11 rfl rfl ?_
  refine Own.iloadN X13 d1_12 rfl ?_
  refine Own.newP_ X13 (cap := 4) (ty := .double) (dv := .double 0) (ad := "[D") d1_13 rfl rfl (by decide) (Own.wd hw 11 rfl) (by decide) (by decide) (by decide) (by decide) (by decide) fun T22 h22 rb k_rb g_rb X22 E22 V22 A22 => ?_
  have ne23 : a ≠ rb := Nat.ne_of_lt (Nat.lt_of_lt_of_le F14.lt (Nat.le_of_eq g_rb.symm))
  have ne24 : ra ≠ rb := Nat.ne_of_lt (Nat.lt_of_lt_of_le F18.lt (Nat.le_of_eq g_rb.symm))
  have fr25 : n0 ≤ rb := Nat.le_trans Z21 (Nat.le_of_eq g_rb.symm)
  have bn26 : h0.size ≤ rb := Nat.le_trans F17.1 (Nat.le_of_eq g_rb.symm)
  have F27 := F14.ext E22
  have F28 := F15.ext E22
  have F29 := F16.ext E22
  have F30 := F17.ext E22
  have F31 := F18.ext E22
  have F32 := F19.ext E22
  have F33 := F20.ext E22
  have Z34 : n0 ≤ h22.size := Nat.le_trans Z21 E22.1
  have V35 : Arv Z h22 rb k_rb .double (4 : Int32) [.double 0, .double 0, .double 0, .double 0] (.double 0) := V22.pad (pad_rep [] (.double 0) 4)
  refine Own.putF_ X22 d1_15 (host := "") (Or.inl (Own.wd hw 14 rfl)) Via.refl F28 F27 (Or.inr ⟨(Own.wd hw 15 rfl), rfl, rfl⟩) (Own.wd hw 3 rfl) (ty := (.array .double)) (by decide) rfl rfl w0 fun T36 h36 X36 W36 => ?_
  have F37 := F27.wr W36
  have F38 := F29.other W36 (Or.inr (slot_ne (Or.inr (Own.wd hw 19 rfl)) (Or.inr (Own.wd hw 15 rfl)) (by decide) (t := (.array (.object "com/example/rainyday/rainyday/ExactSum"))) (t' := (.array .double)) (by decide) (by decide)))
  have F39 := F30.wr W36 (Or.inl (List.mem_of_getElem? (i := 0) rfl))
  have F40 := F31.wr W36
  have F41 := F32.other W36 (Ne.symm ne3)
  have F42 := F33.other W36 (Or.inr (slot_ne (Or.inr (Own.wd hw 13 rfl)) (Or.inr (Own.wd hw 15 rfl)) (by decide) (t := (.array .double)) (t' := (.array .double)) (by decide) (by decide)))
  have F43 := A22.wr W36
  have F44 := V35.other W36 (Ne.symm ne23)
  have F45 : Fld Z h36 a "com/example/rainyday/rainyday/ExactSum$TreeSums" "rest" "[D" (.ref rb) := Fld.same W36 F28
  have Z46 : n0 ≤ h36.size := by rw [W36.size]; exact Z34
  refine Own.aloadN X36 d1_18 rfl rfl ?_
  refine Own.iloadN X36 d1_19 rfl ?_
  refine Own.newRE_ X36 (cap := 4) (ad := "[Lcom/example/rainyday/rainyday/ExactSum;") d1_20 (by decide) (Own.wd hw 16 rfl) (Own.wd hw 17 rfl) (by decide) (by decide) (by decide) (by decide) (by decide) fun T47 h47 rc k_rc g_rc X47 E47 V47 A47 O47 => ?_
  have ne48 : a ≠ rc := Nat.ne_of_lt (Nat.lt_of_lt_of_le F37.lt (Nat.le_of_eq g_rc.symm))
  have ne49 : ra ≠ rc := Nat.ne_of_lt (Nat.lt_of_lt_of_le F40.lt (Nat.le_of_eq g_rc.symm))
  have ne50 : rb ≠ rc := Nat.ne_of_lt (Nat.lt_of_lt_of_le F43.lt (Nat.le_of_eq g_rc.symm))
  have fr51 : n0 ≤ rc := Nat.le_trans Z46 (Nat.le_of_eq g_rc.symm)
  have bn52 : h0.size ≤ rc := Nat.le_trans F39.1 (Nat.le_of_eq g_rc.symm)
  have F53 := F37.ext E47
  have F54 := F38.ext E47
  have F55 := F39.ext E47
  have F56 := F40.ext E47
  have F57 := F41.ext E47
  have F58 := F42.ext E47
  have F59 := F43.ext E47
  have F60 := F44.ext E47
  have F61 := F45.ext E47
  have Z62 : n0 ≤ h47.size := Nat.le_trans Z46 E47.1
  have V63 : Arv Z h47 rc k_rc (.object "com/example/rainyday/rainyday/ExactSum") (4 : Int32) [.null, .null, .null, .null] (.null) := V47.pad (pad_rep [] .null 4)
  refine Own.putF_ X47 d1_23 (host := "") (Or.inl (Own.wd hw 18 rfl)) Via.refl F54 F53 (Or.inr ⟨(Own.wd hw 19 rfl), rfl, rfl⟩) (Own.wd hw 3 rfl) (ty := (.array (.object "com/example/rainyday/rainyday/ExactSum"))) (by decide) rfl rfl w0 fun T64 h64 X64 W64 => ?_
  have F65 := F53.wr W64
  have F66 := F55.wr W64 (Or.inl (List.mem_of_getElem? (i := 0) rfl))
  have F67 := F56.wr W64
  have F68 := F57.other W64 (Ne.symm ne3)
  have F69 := F58.other W64 (Or.inr (slot_ne (Or.inr (Own.wd hw 13 rfl)) (Or.inr (Own.wd hw 19 rfl)) (by decide) (t := (.array .double)) (t' := (.array (.object "com/example/rainyday/rainyday/ExactSum"))) (by decide) (by decide)))
  have F70 := F59.wr W64
  have F71 := F60.other W64 (Ne.symm ne23)
  have F72 := F61.other W64 (Or.inr (slot_ne (Or.inr (Own.wd hw 15 rfl)) (Or.inr (Own.wd hw 19 rfl)) (by decide) (t := (.array .double)) (t' := (.array (.object "com/example/rainyday/rainyday/ExactSum"))) (by decide) (by decide)))
  have F73 := A47.wr W64
  have F74 := V63.other W64 (Ne.symm ne48)
  have F75 : Fld Z h64 a "com/example/rainyday/rainyday/ExactSum$TreeSums" "wider" "[Lcom/example/rainyday/rainyday/ExactSum;" (.ref rc) := Fld.same W64 F54
  have Z76 : n0 ≤ h64.size := by rw [W64.size]; exact Z62
  exact Own.retV X64 d1_26 ⟨ra, rb, rc, k_ra, k_rb, k_rc, rfl, F66, bn5, bn26, bn52, ne24, ne49, ne50, F69, F72, F75, F68, F71, F74, O47⟩ (by decide) (by decide)
theorem ef_3_0 (m : MethodId) (x0 : Addr) (x1 : Int32) : entryFrame m #[.ref x0, .int x1] 2 = mkF m 0 #[.val (.ref x0), .val (.int x1)] [] := by first | (simp [entryFrame, mkF, argsToLocals, Value.category, maxLocals]; done) | rfl
set_option maxRecDepth 65536 in
set_option maxHeartbeats 40000000 in
theorem rm3_0 (l : Launch) (Z : State) (a0 : Array Value) (hw : ∀ d ∈ tables_1, d.before a0 Z = true) (a : Addr) (ra : Addr) (rb : Addr) (rc : Addr) (k_ra : ClassId) (k_rb : ClassId) (k_rc : ClassId) (r0 : UInt64) (r1 : UInt64) (r2 : UInt64) (r3 : UInt64) (s0 : UInt64) (s1 : UInt64) (s2 : UInt64) (s3 : UInt64) (g0 : Value) (g1 : Value) (g2 : Value) (g3 : Value) (h0 : Heap) (n0 : Nat) (Z0 : n0 ≤ h0.size) (f0 : Fld Z h0 a "com/example/rainyday/rainyday/ExactSum$TreeSums" "rounded" "[D" (.ref ra)) (f1 : Fld Z h0 a "com/example/rainyday/rainyday/ExactSum$TreeSums" "rest" "[D" (.ref rb)) (f2 : Fld Z h0 a "com/example/rainyday/rainyday/ExactSum$TreeSums" "wider" "[Lcom/example/rainyday/rainyday/ExactSum;" (.ref rc)) (f3 : Arv Z h0 ra k_ra .double (4 : Int32) [.double r0, .double r1, .double r2, .double r3] (.double 0)) (f4 : Arv Z h0 rb k_rb .double (4 : Int32) [.double s0, .double s1, .double s2, .double s3] (.double 0)) (f5 : Arv Z h0 rc k_rc (.object "com/example/rainyday/rainyday/ExactSum") (4 : Int32) [g0, g1, g2, g3] (.null)) (u0 : a ≠ ra) (u1 : a ≠ rb) (u2 : a ≠ rc) (u3 : ra ≠ rb) (u4 : ra ≠ rc) (u5 : rb ≠ rc) (w0 : n0 ≤ ra) (w1 : n0 ≤ rb) (w2 : n0 ≤ rc)  :
    Own.Con l Z mn_5 [] prog_6_method_2_code 2 none ({ frames := 0, cells := 0, slots := 0, locals := 0 } : Room) #[.ref a, .int (0 : Int32)] h0 n0 (fun v h => v = none ∧ Keep h0 h [ra, rb, rc] ∧ Arv Z h ra k_ra .double (4 : Int32) [.double 0, .double r1, .double r2, .double r3] (.double 0) ∧ Arv Z h rb k_rb .double (4 : Int32) [.double 0, .double s1, .double s2, .double s3] (.double 0) ∧ Arv Z h rc k_rc (.object "com/example/rainyday/rainyday/ExactSum") (4 : Int32) [.null, g1, g2, g3] (.null)) := by
  refine Own.enter (own := "com/example/rainyday/rainyday/ExactSum$TreeSums") (nm := "zero") (plainFor_of_name pn_com_example_rainyday_rainyday_ExactSum_TreeSums) rfl rfl (fun m => ef_3_0 m a (0 : Int32)) fun p e s m below meth c T X => ?_
  refine Own.aloadN X d3_0 rfl rfl ?_
  refine Own.getF_ X d3_1 (host := "") (Or.inl (Own.wd hw 12 rfl)) Via.refl f0 fun T1 X1 => ?_
  refine Own.iloadN X1 d3_4 rfl ?_
  refine Own.dconst0 X1 d3_5 ?_
  refine Own.dastore_ X1 (i := 0) d3_6 f3 (by decide) rfl (Nat.le_of_ble_eq_true rfl) w0 fun T2 h2 X2 W2 V2 => ?_
  have F3 := f0.other W2 (Or.inl u0)
  have F4 := f1.other W2 (Or.inl u0)
  have F5 := f2.other W2 (Or.inl u0)
  have F6 := f4.other W2 (Ne.symm u3)
  have F7 := f5.other W2 (Ne.symm u4)
  have F8 := (Keep.refl h0 [ra, rb, rc]).wr W2 (Or.inl (List.mem_of_getElem? (i := 0) rfl))
  have Z9 : n0 ≤ h2.size := by rw [W2.size]; exact Z0
  have V10 : Arv Z h2 ra k_ra .double (4 : Int32) [.double 0, .double r1, .double r2, .double r3] (.double 0) := V2
  refine Own.aloadN X2 d3_7 rfl rfl ?_
  refine Own.getF_ X2 d3_8 (host := "") (Or.inl (Own.wd hw 14 rfl)) Via.refl F4 fun T11 X11 => ?_
  refine Own.iloadN X11 d3_11 rfl ?_
  refine Own.dconst0 X11 d3_12 ?_
  refine Own.dastore_ X11 (i := 0) d3_13 F6 (by decide) rfl (Nat.le_of_ble_eq_true rfl) w1 fun T12 h12 X12 W12 V12 => ?_
  have F13 := F3.other W12 (Or.inl u1)
  have F14 := F4.other W12 (Or.inl u1)
  have F15 := F5.other W12 (Or.inl u1)
  have F16 := F7.other W12 (Ne.symm u5)
  have F17 := F8.wr W12 (Or.inl (List.mem_of_getElem? (i := 1) rfl))
  have F18 := V10.other W12 u3
  have Z19 : n0 ≤ h12.size := by rw [W12.size]; exact Z9
  have V20 : Arv Z h12 rb k_rb .double (4 : Int32) [.double 0, .double s1, .double s2, .double s3] (.double 0) := V12
  refine Own.aloadN X12 d3_14 rfl rfl ?_
  refine Own.getF_ X12 d3_15 (host := "") (Or.inl (Own.wd hw 18 rfl)) Via.refl F15 fun T21 X21 => ?_
  refine Own.iloadN X21 d3_18 rfl ?_
  refine Own.aconstNull X21 d3_19 ?_
  refine Own.aastore_ X21 (i := 0) d3_20 F16 rfl (by decide) rfl (Nat.le_of_ble_eq_true rfl) w2 rfl (fun _ _ _ => Or.inl rfl) fun T22 h22 X22 W22 V22 => ?_
  have F23 := F13.other W22 (Or.inl u2)
  have F24 := F14.other W22 (Or.inl u2)
  have F25 := F15.other W22 (Or.inl u2)
  have F26 := F17.wr W22 (Or.inl (List.mem_of_getElem? (i := 2) rfl))
  have F27 := F18.other W22 u4
  have F28 := V20.other W22 u5
  have Z29 : n0 ≤ h22.size := by rw [W22.size]; exact Z19
  have V30 : Arv Z h22 rc k_rc (.object "com/example/rainyday/rainyday/ExactSum") (4 : Int32) [.null, g1, g2, g3] (.null) := V22
  exact Own.retV X22 d3_21 ⟨rfl, F26, F27, F28, V30⟩ (by decide) (by decide)
theorem ef_9_0 (m : MethodId) (x0 : Addr) (x1 : Int32) : entryFrame m #[.ref x0, .int x1] 2 = mkF m 0 #[.val (.ref x0), .val (.int x1)] [] := by first | (simp [entryFrame, mkF, argsToLocals, Value.category, maxLocals]; done) | rfl
set_option maxRecDepth 65536 in
set_option maxHeartbeats 40000000 in
theorem rm9_0 (l : Launch) (Z : State) (a0 : Array Value) (hw : ∀ d ∈ tables_1, d.before a0 Z = true) (a : Addr) (ra : Addr) (k_ra : ClassId) (r0 : UInt64) (r1 : UInt64) (r2 : UInt64) (r3 : UInt64) (h0 : Heap) (n0 : Nat) (Z0 : n0 ≤ h0.size) (f0 : Fld Z h0 a "com/example/rainyday/rainyday/ExactSum$TreeSums" "rounded" "[D" (.ref ra)) (f1 : Arv Z h0 ra k_ra .double (4 : Int32) [.double r0, .double r1, .double r2, .double r3] (.double 0))  :
    Own.Con l Z mn_6 [] prog_6_method_5_code 2 (some .double) ({ frames := 0, cells := 0, slots := 0, locals := 0 } : Room) #[.ref a, .int (0 : Int32)] h0 n0 (fun v h => v = some (.double r0) ∧ h0 = h) := by
  refine Own.enter (own := "com/example/rainyday/rainyday/ExactSum$TreeSums") (nm := "value") (plainFor_of_name pn_com_example_rainyday_rainyday_ExactSum_TreeSums) rfl rfl (fun m => ef_9_0 m a (0 : Int32)) fun p e s m below meth c T X => ?_
  refine Own.aloadN X d9_0 rfl rfl ?_
  refine Own.getF_ X d9_1 (host := "") (Or.inl (Own.wd hw 12 rfl)) Via.refl f0 fun T1 X1 => ?_
  refine Own.iloadN X1 d9_4 rfl ?_
  refine Own.daload_ X1 d9_5 f1 (by decide) rfl ?_
  exact Own.retD X1 d9_6 ⟨rfl, rfl⟩ (by decide) (by decide)
theorem ef_8_0 (m : MethodId) (x0 : Addr) (x1 : Int32) : entryFrame m #[.ref x0, .int x1] 2 = mkF m 0 #[.val (.ref x0), .val (.int x1)] [] := by first | (simp [entryFrame, mkF, argsToLocals, Value.category, maxLocals]; done) | rfl
set_option maxRecDepth 65536 in
set_option maxHeartbeats 40000000 in
theorem rm8_0 (l : Launch) (Z : State) (a0 : Array Value) (hw : ∀ d ∈ tables_1, d.before a0 Z = true) (a : Addr) (rb : Addr) (rc : Addr) (k_rb : ClassId) (k_rc : ClassId) (s0 : UInt64) (s1 : UInt64) (s2 : UInt64) (s3 : UInt64) (g1 : Value) (g2 : Value) (g3 : Value) (h0 : Heap) (n0 : Nat) (Z0 : n0 ≤ h0.size) (f0 : Fld Z h0 a "com/example/rainyday/rainyday/ExactSum$TreeSums" "rest" "[D" (.ref rb)) (f1 : Fld Z h0 a "com/example/rainyday/rainyday/ExactSum$TreeSums" "wider" "[Lcom/example/rainyday/rainyday/ExactSum;" (.ref rc)) (f2 : Arv Z h0 rb k_rb .double (4 : Int32) [.double s0, .double s1, .double s2, .double s3] (.double 0)) (f3 : Arv Z h0 rc k_rc (.object "com/example/rainyday/rainyday/ExactSum") (4 : Int32) [.null, g1, g2, g3] (.null)) (n_s0 : NoNaN64 s0)  :
    Own.Con l Z mn_7 [] prog_6_method_6_code 2 (some .boolean) ({ frames := 0, cells := 0, slots := 0, locals := 0 } : Room) #[.ref a, .int (0 : Int32)] h0 n0 (fun v h => v = some (.int (Own.bo (Own.dz s0 = Own.dz 0))) ∧ h0 = h) := by
  refine Own.enter (own := "com/example/rainyday/rainyday/ExactSum$TreeSums") (nm := "isExact") (plainFor_of_name pn_com_example_rainyday_rainyday_ExactSum_TreeSums) rfl rfl (fun m => ef_8_0 m a (0 : Int32)) fun p e s m below meth c T X => ?_
  refine Own.aloadN X d8_0 rfl rfl ?_
  refine Own.getF_ X d8_1 (host := "") (Or.inl (Own.wd hw 14 rfl)) Via.refl f0 fun T1 X1 => ?_
  refine Own.iloadN X1 d8_4 rfl ?_
  refine Own.daload_ X1 d8_5 f2 (by decide) rfl ?_
  refine Own.dconst0 X1 d8_6 ?_
  refine Own.dcmpF X1 (pc' := 24) d8_7 d8_8 (by decide) n_s0 Own.nn_0 (fun (h7 : ¬ (Own.dz s0 = Own.dz 0)) => ?_) (fun h7' => ?_)
  · refine Own.iconst X1 (v := 0) d8_24 rfl ?_
    exact Own.retB X1 d8_25 (by decide) ⟨congrArg (fun z => some (Value.int z)) (Own.bo_f h7), rfl⟩ (by decide) (by decide)
  · have h7 : Own.dz s0 = Own.dz 0 := Classical.not_not.mp h7'
    refine Own.aloadN X1 d8_11 rfl rfl ?_
    refine Own.getF_ X1 d8_12 (host := "") (Or.inl (Own.wd hw 18 rfl)) Via.refl f1 fun T2 X2 => ?_
    refine Own.iloadN X2 d8_15 rfl ?_
    refine Own.aaload_ X2 d8_16 f3 rfl (by decide) rfl ?_
    refine Own.ifnonnullN X2 d8_17 ?_
    refine Own.iconst X2 (v := 1) d8_20 rfl ?_
    refine Own.goto_ X2 (pc' := 25) d8_21 (by decide) ?_
    exact Own.retB X2 d8_25 (by decide) ⟨congrArg (fun z => some (Value.int z)) (Own.bo_t h7), rfl⟩ (by decide) (by decide)
theorem ef_8_0r (m : MethodId) (x0 : Addr) (x1 : Int32) : entryFrame m #[.ref x0, .int x1] 2 = mkF m 0 #[.val (.ref x0), .val (.int x1)] [] := by first | (simp [entryFrame, mkF, argsToLocals, Value.category, maxLocals]; done) | rfl
set_option maxRecDepth 65536 in
set_option maxHeartbeats 40000000 in
theorem rm8_0r (l : Launch) (Z : State) (a0 : Array Value) (hw : ∀ d ∈ tables_1, d.before a0 Z = true) (a : Addr) (rb : Addr) (rc : Addr) (k_rb : ClassId) (k_rc : ClassId) (s0 : UInt64) (s1 : UInt64) (s2 : UInt64) (s3 : UInt64) (g1 : Value) (g2 : Value) (g3 : Value) (gr : Addr) (h0 : Heap) (n0 : Nat) (Z0 : n0 ≤ h0.size) (f0 : Fld Z h0 a "com/example/rainyday/rainyday/ExactSum$TreeSums" "rest" "[D" (.ref rb)) (f1 : Fld Z h0 a "com/example/rainyday/rainyday/ExactSum$TreeSums" "wider" "[Lcom/example/rainyday/rainyday/ExactSum;" (.ref rc)) (f2 : Arv Z h0 rb k_rb .double (4 : Int32) [.double s0, .double s1, .double s2, .double s3] (.double 0)) (f3 : Arv Z h0 rc k_rc (.object "com/example/rainyday/rainyday/ExactSum") (4 : Int32) [.ref gr, g1, g2, g3] (.null)) (n_s0 : NoNaN64 s0)  :
    Own.Con l Z mn_7 [] prog_6_method_6_code 2 (some .boolean) ({ frames := 0, cells := 0, slots := 0, locals := 0 } : Room) #[.ref a, .int (0 : Int32)] h0 n0 (fun v h => v = some (.int (0 : Int32)) ∧ h0 = h) := by
  refine Own.enter (own := "com/example/rainyday/rainyday/ExactSum$TreeSums") (nm := "isExact") (plainFor_of_name pn_com_example_rainyday_rainyday_ExactSum_TreeSums) rfl rfl (fun m => ef_8_0r m a (0 : Int32)) fun p e s m below meth c T X => ?_
  refine Own.aloadN X d8_0 rfl rfl ?_
  refine Own.getF_ X d8_1 (host := "") (Or.inl (Own.wd hw 14 rfl)) Via.refl f0 fun T1 X1 => ?_
  refine Own.iloadN X1 d8_4 rfl ?_
  refine Own.daload_ X1 d8_5 f2 (by decide) rfl ?_
  refine Own.dconst0 X1 d8_6 ?_
  refine Own.dcmpF X1 (pc' := 24) d8_7 d8_8 (by decide) n_s0 Own.nn_0 (fun (h7 : ¬ (Own.dz s0 = Own.dz 0)) => ?_) (fun h7' => ?_)
  · refine Own.iconst X1 (v := 0) d8_24 rfl ?_
    exact Own.retB X1 d8_25 (by decide) ⟨rfl, rfl⟩ (by decide) (by decide)
  · have h7 : Own.dz s0 = Own.dz 0 := Classical.not_not.mp h7'
    refine Own.aloadN X1 d8_11 rfl rfl ?_
    refine Own.getF_ X1 d8_12 (host := "") (Or.inl (Own.wd hw 18 rfl)) Via.refl f1 fun T2 X2 => ?_
    refine Own.iloadN X2 d8_15 rfl ?_
    refine Own.aaload_ X2 d8_16 f3 rfl (by decide) rfl ?_
    refine Own.ifnonnullY X2 (pc' := 24) d8_17 (by decide) ?_
    refine Own.iconst X2 (v := 0) d8_24 rfl ?_
    exact Own.retB X2 d8_25 (by decide) ⟨rfl, rfl⟩ (by decide) (by decide)
theorem ef_3_1 (m : MethodId) (x0 : Addr) (x1 : Int32) : entryFrame m #[.ref x0, .int x1] 2 = mkF m 0 #[.val (.ref x0), .val (.int x1)] [] := by first | (simp [entryFrame, mkF, argsToLocals, Value.category, maxLocals]; done) | rfl
set_option maxRecDepth 65536 in
set_option maxHeartbeats 40000000 in
theorem rm3_1 (l : Launch) (Z : State) (a0 : Array Value) (hw : ∀ d ∈ tables_1, d.before a0 Z = true) (a : Addr) (ra : Addr) (rb : Addr) (rc : Addr) (k_ra : ClassId) (k_rb : ClassId) (k_rc : ClassId) (r0 : UInt64) (r1 : UInt64) (r2 : UInt64) (r3 : UInt64) (s0 : UInt64) (s1 : UInt64) (s2 : UInt64) (s3 : UInt64) (g0 : Value) (g1 : Value) (g2 : Value) (g3 : Value) (h0 : Heap) (n0 : Nat) (Z0 : n0 ≤ h0.size) (f0 : Fld Z h0 a "com/example/rainyday/rainyday/ExactSum$TreeSums" "rounded" "[D" (.ref ra)) (f1 : Fld Z h0 a "com/example/rainyday/rainyday/ExactSum$TreeSums" "rest" "[D" (.ref rb)) (f2 : Fld Z h0 a "com/example/rainyday/rainyday/ExactSum$TreeSums" "wider" "[Lcom/example/rainyday/rainyday/ExactSum;" (.ref rc)) (f3 : Arv Z h0 ra k_ra .double (4 : Int32) [.double r0, .double r1, .double r2, .double r3] (.double 0)) (f4 : Arv Z h0 rb k_rb .double (4 : Int32) [.double s0, .double s1, .double s2, .double s3] (.double 0)) (f5 : Arv Z h0 rc k_rc (.object "com/example/rainyday/rainyday/ExactSum") (4 : Int32) [g0, g1, g2, g3] (.null)) (u0 : a ≠ ra) (u1 : a ≠ rb) (u2 : a ≠ rc) (u3 : ra ≠ rb) (u4 : ra ≠ rc) (u5 : rb ≠ rc) (w0 : n0 ≤ ra) (w1 : n0 ≤ rb) (w2 : n0 ≤ rc)  :
    Own.Con l Z mn_5 [] prog_6_method_2_code 2 none ({ frames := 0, cells := 0, slots := 0, locals := 0 } : Room) #[.ref a, .int (1 : Int32)] h0 n0 (fun v h => v = none ∧ Keep h0 h [ra, rb, rc] ∧ Arv Z h ra k_ra .double (4 : Int32) [.double r0, .double 0, .double r2, .double r3] (.double 0) ∧ Arv Z h rb k_rb .double (4 : Int32) [.double s0, .double 0, .double s2, .double s3] (.double 0) ∧ Arv Z h rc k_rc (.object "com/example/rainyday/rainyday/ExactSum") (4 : Int32) [g0, .null, g2, g3] (.null)) := by
  refine Own.enter (own := "com/example/rainyday/rainyday/ExactSum$TreeSums") (nm := "zero") (plainFor_of_name pn_com_example_rainyday_rainyday_ExactSum_TreeSums) rfl rfl (fun m => ef_3_1 m a (1 : Int32)) fun p e s m below meth c T X => ?_
  refine Own.aloadN X d3_0 rfl rfl ?_
  refine Own.getF_ X d3_1 (host := "") (Or.inl (Own.wd hw 12 rfl)) Via.refl f0 fun T1 X1 => ?_
  refine Own.iloadN X1 d3_4 rfl ?_
  refine Own.dconst0 X1 d3_5 ?_
  refine Own.dastore_ X1 (i := 1) d3_6 f3 (by decide) rfl (Nat.le_of_ble_eq_true rfl) w0 fun T2 h2 X2 W2 V2 => ?_
  have F3 := f0.other W2 (Or.inl u0)
  have F4 := f1.other W2 (Or.inl u0)
  have F5 := f2.other W2 (Or.inl u0)
  have F6 := f4.other W2 (Ne.symm u3)
  have F7 := f5.other W2 (Ne.symm u4)
  have F8 := (Keep.refl h0 [ra, rb, rc]).wr W2 (Or.inl (List.mem_of_getElem? (i := 0) rfl))
  have Z9 : n0 ≤ h2.size := by rw [W2.size]; exact Z0
  have V10 : Arv Z h2 ra k_ra .double (4 : Int32) [.double r0, .double 0, .double r2, .double r3] (.double 0) := V2
  refine Own.aloadN X2 d3_7 rfl rfl ?_
  refine Own.getF_ X2 d3_8 (host := "") (Or.inl (Own.wd hw 14 rfl)) Via.refl F4 fun T11 X11 => ?_
  refine Own.iloadN X11 d3_11 rfl ?_
  refine Own.dconst0 X11 d3_12 ?_
  refine Own.dastore_ X11 (i := 1) d3_13 F6 (by decide) rfl (Nat.le_of_ble_eq_true rfl) w1 fun T12 h12 X12 W12 V12 => ?_
  have F13 := F3.other W12 (Or.inl u1)
  have F14 := F4.other W12 (Or.inl u1)
  have F15 := F5.other W12 (Or.inl u1)
  have F16 := F7.other W12 (Ne.symm u5)
  have F17 := F8.wr W12 (Or.inl (List.mem_of_getElem? (i := 1) rfl))
  have F18 := V10.other W12 u3
  have Z19 : n0 ≤ h12.size := by rw [W12.size]; exact Z9
  have V20 : Arv Z h12 rb k_rb .double (4 : Int32) [.double s0, .double 0, .double s2, .double s3] (.double 0) := V12
  refine Own.aloadN X12 d3_14 rfl rfl ?_
  refine Own.getF_ X12 d3_15 (host := "") (Or.inl (Own.wd hw 18 rfl)) Via.refl F15 fun T21 X21 => ?_
  refine Own.iloadN X21 d3_18 rfl ?_
  refine Own.aconstNull X21 d3_19 ?_
  refine Own.aastore_ X21 (i := 1) d3_20 F16 rfl (by decide) rfl (Nat.le_of_ble_eq_true rfl) w2 rfl (fun _ _ _ => Or.inl rfl) fun T22 h22 X22 W22 V22 => ?_
  have F23 := F13.other W22 (Or.inl u2)
  have F24 := F14.other W22 (Or.inl u2)
  have F25 := F15.other W22 (Or.inl u2)
  have F26 := F17.wr W22 (Or.inl (List.mem_of_getElem? (i := 2) rfl))
  have F27 := F18.other W22 u4
  have F28 := V20.other W22 u5
  have Z29 : n0 ≤ h22.size := by rw [W22.size]; exact Z19
  have V30 : Arv Z h22 rc k_rc (.object "com/example/rainyday/rainyday/ExactSum") (4 : Int32) [g0, .null, g2, g3] (.null) := V22
  exact Own.retV X22 d3_21 ⟨rfl, F26, F27, F28, V30⟩ (by decide) (by decide)
theorem ef_9_1 (m : MethodId) (x0 : Addr) (x1 : Int32) : entryFrame m #[.ref x0, .int x1] 2 = mkF m 0 #[.val (.ref x0), .val (.int x1)] [] := by first | (simp [entryFrame, mkF, argsToLocals, Value.category, maxLocals]; done) | rfl
set_option maxRecDepth 65536 in
set_option maxHeartbeats 40000000 in
theorem rm9_1 (l : Launch) (Z : State) (a0 : Array Value) (hw : ∀ d ∈ tables_1, d.before a0 Z = true) (a : Addr) (ra : Addr) (k_ra : ClassId) (r0 : UInt64) (r1 : UInt64) (r2 : UInt64) (r3 : UInt64) (h0 : Heap) (n0 : Nat) (Z0 : n0 ≤ h0.size) (f0 : Fld Z h0 a "com/example/rainyday/rainyday/ExactSum$TreeSums" "rounded" "[D" (.ref ra)) (f1 : Arv Z h0 ra k_ra .double (4 : Int32) [.double r0, .double r1, .double r2, .double r3] (.double 0))  :
    Own.Con l Z mn_6 [] prog_6_method_5_code 2 (some .double) ({ frames := 0, cells := 0, slots := 0, locals := 0 } : Room) #[.ref a, .int (1 : Int32)] h0 n0 (fun v h => v = some (.double r1) ∧ h0 = h) := by
  refine Own.enter (own := "com/example/rainyday/rainyday/ExactSum$TreeSums") (nm := "value") (plainFor_of_name pn_com_example_rainyday_rainyday_ExactSum_TreeSums) rfl rfl (fun m => ef_9_1 m a (1 : Int32)) fun p e s m below meth c T X => ?_
  refine Own.aloadN X d9_0 rfl rfl ?_
  refine Own.getF_ X d9_1 (host := "") (Or.inl (Own.wd hw 12 rfl)) Via.refl f0 fun T1 X1 => ?_
  refine Own.iloadN X1 d9_4 rfl ?_
  refine Own.daload_ X1 d9_5 f1 (by decide) rfl ?_
  exact Own.retD X1 d9_6 ⟨rfl, rfl⟩ (by decide) (by decide)
theorem ef_8_1 (m : MethodId) (x0 : Addr) (x1 : Int32) : entryFrame m #[.ref x0, .int x1] 2 = mkF m 0 #[.val (.ref x0), .val (.int x1)] [] := by first | (simp [entryFrame, mkF, argsToLocals, Value.category, maxLocals]; done) | rfl
set_option maxRecDepth 65536 in
set_option maxHeartbeats 40000000 in
theorem rm8_1 (l : Launch) (Z : State) (a0 : Array Value) (hw : ∀ d ∈ tables_1, d.before a0 Z = true) (a : Addr) (rb : Addr) (rc : Addr) (k_rb : ClassId) (k_rc : ClassId) (s0 : UInt64) (s1 : UInt64) (s2 : UInt64) (s3 : UInt64) (g0 : Value) (g2 : Value) (g3 : Value) (h0 : Heap) (n0 : Nat) (Z0 : n0 ≤ h0.size) (f0 : Fld Z h0 a "com/example/rainyday/rainyday/ExactSum$TreeSums" "rest" "[D" (.ref rb)) (f1 : Fld Z h0 a "com/example/rainyday/rainyday/ExactSum$TreeSums" "wider" "[Lcom/example/rainyday/rainyday/ExactSum;" (.ref rc)) (f2 : Arv Z h0 rb k_rb .double (4 : Int32) [.double s0, .double s1, .double s2, .double s3] (.double 0)) (f3 : Arv Z h0 rc k_rc (.object "com/example/rainyday/rainyday/ExactSum") (4 : Int32) [g0, .null, g2, g3] (.null)) (n_s1 : NoNaN64 s1)  :
    Own.Con l Z mn_7 [] prog_6_method_6_code 2 (some .boolean) ({ frames := 0, cells := 0, slots := 0, locals := 0 } : Room) #[.ref a, .int (1 : Int32)] h0 n0 (fun v h => v = some (.int (Own.bo (Own.dz s1 = Own.dz 0))) ∧ h0 = h) := by
  refine Own.enter (own := "com/example/rainyday/rainyday/ExactSum$TreeSums") (nm := "isExact") (plainFor_of_name pn_com_example_rainyday_rainyday_ExactSum_TreeSums) rfl rfl (fun m => ef_8_1 m a (1 : Int32)) fun p e s m below meth c T X => ?_
  refine Own.aloadN X d8_0 rfl rfl ?_
  refine Own.getF_ X d8_1 (host := "") (Or.inl (Own.wd hw 14 rfl)) Via.refl f0 fun T1 X1 => ?_
  refine Own.iloadN X1 d8_4 rfl ?_
  refine Own.daload_ X1 d8_5 f2 (by decide) rfl ?_
  refine Own.dconst0 X1 d8_6 ?_
  refine Own.dcmpF X1 (pc' := 24) d8_7 d8_8 (by decide) n_s1 Own.nn_0 (fun (h7 : ¬ (Own.dz s1 = Own.dz 0)) => ?_) (fun h7' => ?_)
  · refine Own.iconst X1 (v := 0) d8_24 rfl ?_
    exact Own.retB X1 d8_25 (by decide) ⟨congrArg (fun z => some (Value.int z)) (Own.bo_f h7), rfl⟩ (by decide) (by decide)
  · have h7 : Own.dz s1 = Own.dz 0 := Classical.not_not.mp h7'
    refine Own.aloadN X1 d8_11 rfl rfl ?_
    refine Own.getF_ X1 d8_12 (host := "") (Or.inl (Own.wd hw 18 rfl)) Via.refl f1 fun T2 X2 => ?_
    refine Own.iloadN X2 d8_15 rfl ?_
    refine Own.aaload_ X2 d8_16 f3 rfl (by decide) rfl ?_
    refine Own.ifnonnullN X2 d8_17 ?_
    refine Own.iconst X2 (v := 1) d8_20 rfl ?_
    refine Own.goto_ X2 (pc' := 25) d8_21 (by decide) ?_
    exact Own.retB X2 d8_25 (by decide) ⟨congrArg (fun z => some (Value.int z)) (Own.bo_t h7), rfl⟩ (by decide) (by decide)
theorem ef_8_1r (m : MethodId) (x0 : Addr) (x1 : Int32) : entryFrame m #[.ref x0, .int x1] 2 = mkF m 0 #[.val (.ref x0), .val (.int x1)] [] := by first | (simp [entryFrame, mkF, argsToLocals, Value.category, maxLocals]; done) | rfl
set_option maxRecDepth 65536 in
set_option maxHeartbeats 40000000 in
theorem rm8_1r (l : Launch) (Z : State) (a0 : Array Value) (hw : ∀ d ∈ tables_1, d.before a0 Z = true) (a : Addr) (rb : Addr) (rc : Addr) (k_rb : ClassId) (k_rc : ClassId) (s0 : UInt64) (s1 : UInt64) (s2 : UInt64) (s3 : UInt64) (g0 : Value) (g2 : Value) (g3 : Value) (gr : Addr) (h0 : Heap) (n0 : Nat) (Z0 : n0 ≤ h0.size) (f0 : Fld Z h0 a "com/example/rainyday/rainyday/ExactSum$TreeSums" "rest" "[D" (.ref rb)) (f1 : Fld Z h0 a "com/example/rainyday/rainyday/ExactSum$TreeSums" "wider" "[Lcom/example/rainyday/rainyday/ExactSum;" (.ref rc)) (f2 : Arv Z h0 rb k_rb .double (4 : Int32) [.double s0, .double s1, .double s2, .double s3] (.double 0)) (f3 : Arv Z h0 rc k_rc (.object "com/example/rainyday/rainyday/ExactSum") (4 : Int32) [g0, .ref gr, g2, g3] (.null)) (n_s1 : NoNaN64 s1)  :
    Own.Con l Z mn_7 [] prog_6_method_6_code 2 (some .boolean) ({ frames := 0, cells := 0, slots := 0, locals := 0 } : Room) #[.ref a, .int (1 : Int32)] h0 n0 (fun v h => v = some (.int (0 : Int32)) ∧ h0 = h) := by
  refine Own.enter (own := "com/example/rainyday/rainyday/ExactSum$TreeSums") (nm := "isExact") (plainFor_of_name pn_com_example_rainyday_rainyday_ExactSum_TreeSums) rfl rfl (fun m => ef_8_1r m a (1 : Int32)) fun p e s m below meth c T X => ?_
  refine Own.aloadN X d8_0 rfl rfl ?_
  refine Own.getF_ X d8_1 (host := "") (Or.inl (Own.wd hw 14 rfl)) Via.refl f0 fun T1 X1 => ?_
  refine Own.iloadN X1 d8_4 rfl ?_
  refine Own.daload_ X1 d8_5 f2 (by decide) rfl ?_
  refine Own.dconst0 X1 d8_6 ?_
  refine Own.dcmpF X1 (pc' := 24) d8_7 d8_8 (by decide) n_s1 Own.nn_0 (fun (h7 : ¬ (Own.dz s1 = Own.dz 0)) => ?_) (fun h7' => ?_)
  · refine Own.iconst X1 (v := 0) d8_24 rfl ?_
    exact Own.retB X1 d8_25 (by decide) ⟨rfl, rfl⟩ (by decide) (by decide)
  · have h7 : Own.dz s1 = Own.dz 0 := Classical.not_not.mp h7'
    refine Own.aloadN X1 d8_11 rfl rfl ?_
    refine Own.getF_ X1 d8_12 (host := "") (Or.inl (Own.wd hw 18 rfl)) Via.refl f1 fun T2 X2 => ?_
    refine Own.iloadN X2 d8_15 rfl ?_
    refine Own.aaload_ X2 d8_16 f3 rfl (by decide) rfl ?_
    refine Own.ifnonnullY X2 (pc' := 24) d8_17 (by decide) ?_
    refine Own.iconst X2 (v := 0) d8_24 rfl ?_
    exact Own.retB X2 d8_25 (by decide) ⟨rfl, rfl⟩ (by decide) (by decide)
theorem ef_3_2 (m : MethodId) (x0 : Addr) (x1 : Int32) : entryFrame m #[.ref x0, .int x1] 2 = mkF m 0 #[.val (.ref x0), .val (.int x1)] [] := by first | (simp [entryFrame, mkF, argsToLocals, Value.category, maxLocals]; done) | rfl
set_option maxRecDepth 65536 in
set_option maxHeartbeats 40000000 in
theorem rm3_2 (l : Launch) (Z : State) (a0 : Array Value) (hw : ∀ d ∈ tables_1, d.before a0 Z = true) (a : Addr) (ra : Addr) (rb : Addr) (rc : Addr) (k_ra : ClassId) (k_rb : ClassId) (k_rc : ClassId) (r0 : UInt64) (r1 : UInt64) (r2 : UInt64) (r3 : UInt64) (s0 : UInt64) (s1 : UInt64) (s2 : UInt64) (s3 : UInt64) (g0 : Value) (g1 : Value) (g2 : Value) (g3 : Value) (h0 : Heap) (n0 : Nat) (Z0 : n0 ≤ h0.size) (f0 : Fld Z h0 a "com/example/rainyday/rainyday/ExactSum$TreeSums" "rounded" "[D" (.ref ra)) (f1 : Fld Z h0 a "com/example/rainyday/rainyday/ExactSum$TreeSums" "rest" "[D" (.ref rb)) (f2 : Fld Z h0 a "com/example/rainyday/rainyday/ExactSum$TreeSums" "wider" "[Lcom/example/rainyday/rainyday/ExactSum;" (.ref rc)) (f3 : Arv Z h0 ra k_ra .double (4 : Int32) [.double r0, .double r1, .double r2, .double r3] (.double 0)) (f4 : Arv Z h0 rb k_rb .double (4 : Int32) [.double s0, .double s1, .double s2, .double s3] (.double 0)) (f5 : Arv Z h0 rc k_rc (.object "com/example/rainyday/rainyday/ExactSum") (4 : Int32) [g0, g1, g2, g3] (.null)) (u0 : a ≠ ra) (u1 : a ≠ rb) (u2 : a ≠ rc) (u3 : ra ≠ rb) (u4 : ra ≠ rc) (u5 : rb ≠ rc) (w0 : n0 ≤ ra) (w1 : n0 ≤ rb) (w2 : n0 ≤ rc)  :
    Own.Con l Z mn_5 [] prog_6_method_2_code 2 none ({ frames := 0, cells := 0, slots := 0, locals := 0 } : Room) #[.ref a, .int (2 : Int32)] h0 n0 (fun v h => v = none ∧ Keep h0 h [ra, rb, rc] ∧ Arv Z h ra k_ra .double (4 : Int32) [.double r0, .double r1, .double 0, .double r3] (.double 0) ∧ Arv Z h rb k_rb .double (4 : Int32) [.double s0, .double s1, .double 0, .double s3] (.double 0) ∧ Arv Z h rc k_rc (.object "com/example/rainyday/rainyday/ExactSum") (4 : Int32) [g0, g1, .null, g3] (.null)) := by
  refine Own.enter (own := "com/example/rainyday/rainyday/ExactSum$TreeSums") (nm := "zero") (plainFor_of_name pn_com_example_rainyday_rainyday_ExactSum_TreeSums) rfl rfl (fun m => ef_3_2 m a (2 : Int32)) fun p e s m below meth c T X => ?_
  refine Own.aloadN X d3_0 rfl rfl ?_
  refine Own.getF_ X d3_1 (host := "") (Or.inl (Own.wd hw 12 rfl)) Via.refl f0 fun T1 X1 => ?_
  refine Own.iloadN X1 d3_4 rfl ?_
  refine Own.dconst0 X1 d3_5 ?_
  refine Own.dastore_ X1 (i := 2) d3_6 f3 (by decide) rfl (Nat.le_of_ble_eq_true rfl) w0 fun T2 h2 X2 W2 V2 => ?_
  have F3 := f0.other W2 (Or.inl u0)
  have F4 := f1.other W2 (Or.inl u0)
  have F5 := f2.other W2 (Or.inl u0)
  have F6 := f4.other W2 (Ne.symm u3)
  have F7 := f5.other W2 (Ne.symm u4)
  have F8 := (Keep.refl h0 [ra, rb, rc]).wr W2 (Or.inl (List.mem_of_getElem? (i := 0) rfl))
  have Z9 : n0 ≤ h2.size := by rw [W2.size]; exact Z0
  have V10 : Arv Z h2 ra k_ra .double (4 : Int32) [.double r0, .double r1, .double 0, .double r3] (.double 0) := V2
  refine Own.aloadN X2 d3_7 rfl rfl ?_
  refine Own.getF_ X2 d3_8 (host := "") (Or.inl (Own.wd hw 14 rfl)) Via.refl F4 fun T11 X11 => ?_
  refine Own.iloadN X11 d3_11 rfl ?_
  refine Own.dconst0 X11 d3_12 ?_
  refine Own.dastore_ X11 (i := 2) d3_13 F6 (by decide) rfl (Nat.le_of_ble_eq_true rfl) w1 fun T12 h12 X12 W12 V12 => ?_
  have F13 := F3.other W12 (Or.inl u1)
  have F14 := F4.other W12 (Or.inl u1)
  have F15 := F5.other W12 (Or.inl u1)
  have F16 := F7.other W12 (Ne.symm u5)
  have F17 := F8.wr W12 (Or.inl (List.mem_of_getElem? (i := 1) rfl))
  have F18 := V10.other W12 u3
  have Z19 : n0 ≤ h12.size := by rw [W12.size]; exact Z9
  have V20 : Arv Z h12 rb k_rb .double (4 : Int32) [.double s0, .double s1, .double 0, .double s3] (.double 0) := V12
  refine Own.aloadN X12 d3_14 rfl rfl ?_
  refine Own.getF_ X12 d3_15 (host := "") (Or.inl (Own.wd hw 18 rfl)) Via.refl F15 fun T21 X21 => ?_
  refine Own.iloadN X21 d3_18 rfl ?_
  refine Own.aconstNull X21 d3_19 ?_
  refine Own.aastore_ X21 (i := 2) d3_20 F16 rfl (by decide) rfl (Nat.le_of_ble_eq_true rfl) w2 rfl (fun _ _ _ => Or.inl rfl) fun T22 h22 X22 W22 V22 => ?_
  have F23 := F13.other W22 (Or.inl u2)
  have F24 := F14.other W22 (Or.inl u2)
  have F25 := F15.other W22 (Or.inl u2)
  have F26 := F17.wr W22 (Or.inl (List.mem_of_getElem? (i := 2) rfl))
  have F27 := F18.other W22 u4
  have F28 := V20.other W22 u5
  have Z29 : n0 ≤ h22.size := by rw [W22.size]; exact Z19
  have V30 : Arv Z h22 rc k_rc (.object "com/example/rainyday/rainyday/ExactSum") (4 : Int32) [g0, g1, .null, g3] (.null) := V22
  exact Own.retV X22 d3_21 ⟨rfl, F26, F27, F28, V30⟩ (by decide) (by decide)
theorem ef_9_2 (m : MethodId) (x0 : Addr) (x1 : Int32) : entryFrame m #[.ref x0, .int x1] 2 = mkF m 0 #[.val (.ref x0), .val (.int x1)] [] := by first | (simp [entryFrame, mkF, argsToLocals, Value.category, maxLocals]; done) | rfl
set_option maxRecDepth 65536 in
set_option maxHeartbeats 40000000 in
theorem rm9_2 (l : Launch) (Z : State) (a0 : Array Value) (hw : ∀ d ∈ tables_1, d.before a0 Z = true) (a : Addr) (ra : Addr) (k_ra : ClassId) (r0 : UInt64) (r1 : UInt64) (r2 : UInt64) (r3 : UInt64) (h0 : Heap) (n0 : Nat) (Z0 : n0 ≤ h0.size) (f0 : Fld Z h0 a "com/example/rainyday/rainyday/ExactSum$TreeSums" "rounded" "[D" (.ref ra)) (f1 : Arv Z h0 ra k_ra .double (4 : Int32) [.double r0, .double r1, .double r2, .double r3] (.double 0))  :
    Own.Con l Z mn_6 [] prog_6_method_5_code 2 (some .double) ({ frames := 0, cells := 0, slots := 0, locals := 0 } : Room) #[.ref a, .int (2 : Int32)] h0 n0 (fun v h => v = some (.double r2) ∧ h0 = h) := by
  refine Own.enter (own := "com/example/rainyday/rainyday/ExactSum$TreeSums") (nm := "value") (plainFor_of_name pn_com_example_rainyday_rainyday_ExactSum_TreeSums) rfl rfl (fun m => ef_9_2 m a (2 : Int32)) fun p e s m below meth c T X => ?_
  refine Own.aloadN X d9_0 rfl rfl ?_
  refine Own.getF_ X d9_1 (host := "") (Or.inl (Own.wd hw 12 rfl)) Via.refl f0 fun T1 X1 => ?_
  refine Own.iloadN X1 d9_4 rfl ?_
  refine Own.daload_ X1 d9_5 f1 (by decide) rfl ?_
  exact Own.retD X1 d9_6 ⟨rfl, rfl⟩ (by decide) (by decide)
theorem ef_8_2 (m : MethodId) (x0 : Addr) (x1 : Int32) : entryFrame m #[.ref x0, .int x1] 2 = mkF m 0 #[.val (.ref x0), .val (.int x1)] [] := by first | (simp [entryFrame, mkF, argsToLocals, Value.category, maxLocals]; done) | rfl
set_option maxRecDepth 65536 in
set_option maxHeartbeats 40000000 in
theorem rm8_2 (l : Launch) (Z : State) (a0 : Array Value) (hw : ∀ d ∈ tables_1, d.before a0 Z = true) (a : Addr) (rb : Addr) (rc : Addr) (k_rb : ClassId) (k_rc : ClassId) (s0 : UInt64) (s1 : UInt64) (s2 : UInt64) (s3 : UInt64) (g0 : Value) (g1 : Value) (g3 : Value) (h0 : Heap) (n0 : Nat) (Z0 : n0 ≤ h0.size) (f0 : Fld Z h0 a "com/example/rainyday/rainyday/ExactSum$TreeSums" "rest" "[D" (.ref rb)) (f1 : Fld Z h0 a "com/example/rainyday/rainyday/ExactSum$TreeSums" "wider" "[Lcom/example/rainyday/rainyday/ExactSum;" (.ref rc)) (f2 : Arv Z h0 rb k_rb .double (4 : Int32) [.double s0, .double s1, .double s2, .double s3] (.double 0)) (f3 : Arv Z h0 rc k_rc (.object "com/example/rainyday/rainyday/ExactSum") (4 : Int32) [g0, g1, .null, g3] (.null)) (n_s2 : NoNaN64 s2)  :
    Own.Con l Z mn_7 [] prog_6_method_6_code 2 (some .boolean) ({ frames := 0, cells := 0, slots := 0, locals := 0 } : Room) #[.ref a, .int (2 : Int32)] h0 n0 (fun v h => v = some (.int (Own.bo (Own.dz s2 = Own.dz 0))) ∧ h0 = h) := by
  refine Own.enter (own := "com/example/rainyday/rainyday/ExactSum$TreeSums") (nm := "isExact") (plainFor_of_name pn_com_example_rainyday_rainyday_ExactSum_TreeSums) rfl rfl (fun m => ef_8_2 m a (2 : Int32)) fun p e s m below meth c T X => ?_
  refine Own.aloadN X d8_0 rfl rfl ?_
  refine Own.getF_ X d8_1 (host := "") (Or.inl (Own.wd hw 14 rfl)) Via.refl f0 fun T1 X1 => ?_
  refine Own.iloadN X1 d8_4 rfl ?_
  refine Own.daload_ X1 d8_5 f2 (by decide) rfl ?_
  refine Own.dconst0 X1 d8_6 ?_
  refine Own.dcmpF X1 (pc' := 24) d8_7 d8_8 (by decide) n_s2 Own.nn_0 (fun (h7 : ¬ (Own.dz s2 = Own.dz 0)) => ?_) (fun h7' => ?_)
  · refine Own.iconst X1 (v := 0) d8_24 rfl ?_
    exact Own.retB X1 d8_25 (by decide) ⟨congrArg (fun z => some (Value.int z)) (Own.bo_f h7), rfl⟩ (by decide) (by decide)
  · have h7 : Own.dz s2 = Own.dz 0 := Classical.not_not.mp h7'
    refine Own.aloadN X1 d8_11 rfl rfl ?_
    refine Own.getF_ X1 d8_12 (host := "") (Or.inl (Own.wd hw 18 rfl)) Via.refl f1 fun T2 X2 => ?_
    refine Own.iloadN X2 d8_15 rfl ?_
    refine Own.aaload_ X2 d8_16 f3 rfl (by decide) rfl ?_
    refine Own.ifnonnullN X2 d8_17 ?_
    refine Own.iconst X2 (v := 1) d8_20 rfl ?_
    refine Own.goto_ X2 (pc' := 25) d8_21 (by decide) ?_
    exact Own.retB X2 d8_25 (by decide) ⟨congrArg (fun z => some (Value.int z)) (Own.bo_t h7), rfl⟩ (by decide) (by decide)
theorem ef_8_2r (m : MethodId) (x0 : Addr) (x1 : Int32) : entryFrame m #[.ref x0, .int x1] 2 = mkF m 0 #[.val (.ref x0), .val (.int x1)] [] := by first | (simp [entryFrame, mkF, argsToLocals, Value.category, maxLocals]; done) | rfl
set_option maxRecDepth 65536 in
set_option maxHeartbeats 40000000 in
theorem rm8_2r (l : Launch) (Z : State) (a0 : Array Value) (hw : ∀ d ∈ tables_1, d.before a0 Z = true) (a : Addr) (rb : Addr) (rc : Addr) (k_rb : ClassId) (k_rc : ClassId) (s0 : UInt64) (s1 : UInt64) (s2 : UInt64) (s3 : UInt64) (g0 : Value) (g1 : Value) (g3 : Value) (gr : Addr) (h0 : Heap) (n0 : Nat) (Z0 : n0 ≤ h0.size) (f0 : Fld Z h0 a "com/example/rainyday/rainyday/ExactSum$TreeSums" "rest" "[D" (.ref rb)) (f1 : Fld Z h0 a "com/example/rainyday/rainyday/ExactSum$TreeSums" "wider" "[Lcom/example/rainyday/rainyday/ExactSum;" (.ref rc)) (f2 : Arv Z h0 rb k_rb .double (4 : Int32) [.double s0, .double s1, .double s2, .double s3] (.double 0)) (f3 : Arv Z h0 rc k_rc (.object "com/example/rainyday/rainyday/ExactSum") (4 : Int32) [g0, g1, .ref gr, g3] (.null)) (n_s2 : NoNaN64 s2)  :
    Own.Con l Z mn_7 [] prog_6_method_6_code 2 (some .boolean) ({ frames := 0, cells := 0, slots := 0, locals := 0 } : Room) #[.ref a, .int (2 : Int32)] h0 n0 (fun v h => v = some (.int (0 : Int32)) ∧ h0 = h) := by
  refine Own.enter (own := "com/example/rainyday/rainyday/ExactSum$TreeSums") (nm := "isExact") (plainFor_of_name pn_com_example_rainyday_rainyday_ExactSum_TreeSums) rfl rfl (fun m => ef_8_2r m a (2 : Int32)) fun p e s m below meth c T X => ?_
  refine Own.aloadN X d8_0 rfl rfl ?_
  refine Own.getF_ X d8_1 (host := "") (Or.inl (Own.wd hw 14 rfl)) Via.refl f0 fun T1 X1 => ?_
  refine Own.iloadN X1 d8_4 rfl ?_
  refine Own.daload_ X1 d8_5 f2 (by decide) rfl ?_
  refine Own.dconst0 X1 d8_6 ?_
  refine Own.dcmpF X1 (pc' := 24) d8_7 d8_8 (by decide) n_s2 Own.nn_0 (fun (h7 : ¬ (Own.dz s2 = Own.dz 0)) => ?_) (fun h7' => ?_)
  · refine Own.iconst X1 (v := 0) d8_24 rfl ?_
    exact Own.retB X1 d8_25 (by decide) ⟨rfl, rfl⟩ (by decide) (by decide)
  · have h7 : Own.dz s2 = Own.dz 0 := Classical.not_not.mp h7'
    refine Own.aloadN X1 d8_11 rfl rfl ?_
    refine Own.getF_ X1 d8_12 (host := "") (Or.inl (Own.wd hw 18 rfl)) Via.refl f1 fun T2 X2 => ?_
    refine Own.iloadN X2 d8_15 rfl ?_
    refine Own.aaload_ X2 d8_16 f3 rfl (by decide) rfl ?_
    refine Own.ifnonnullY X2 (pc' := 24) d8_17 (by decide) ?_
    refine Own.iconst X2 (v := 0) d8_24 rfl ?_
    exact Own.retB X2 d8_25 (by decide) ⟨rfl, rfl⟩ (by decide) (by decide)
theorem ef_3_3 (m : MethodId) (x0 : Addr) (x1 : Int32) : entryFrame m #[.ref x0, .int x1] 2 = mkF m 0 #[.val (.ref x0), .val (.int x1)] [] := by first | (simp [entryFrame, mkF, argsToLocals, Value.category, maxLocals]; done) | rfl
set_option maxRecDepth 65536 in
set_option maxHeartbeats 40000000 in
theorem rm3_3 (l : Launch) (Z : State) (a0 : Array Value) (hw : ∀ d ∈ tables_1, d.before a0 Z = true) (a : Addr) (ra : Addr) (rb : Addr) (rc : Addr) (k_ra : ClassId) (k_rb : ClassId) (k_rc : ClassId) (r0 : UInt64) (r1 : UInt64) (r2 : UInt64) (r3 : UInt64) (s0 : UInt64) (s1 : UInt64) (s2 : UInt64) (s3 : UInt64) (g0 : Value) (g1 : Value) (g2 : Value) (g3 : Value) (h0 : Heap) (n0 : Nat) (Z0 : n0 ≤ h0.size) (f0 : Fld Z h0 a "com/example/rainyday/rainyday/ExactSum$TreeSums" "rounded" "[D" (.ref ra)) (f1 : Fld Z h0 a "com/example/rainyday/rainyday/ExactSum$TreeSums" "rest" "[D" (.ref rb)) (f2 : Fld Z h0 a "com/example/rainyday/rainyday/ExactSum$TreeSums" "wider" "[Lcom/example/rainyday/rainyday/ExactSum;" (.ref rc)) (f3 : Arv Z h0 ra k_ra .double (4 : Int32) [.double r0, .double r1, .double r2, .double r3] (.double 0)) (f4 : Arv Z h0 rb k_rb .double (4 : Int32) [.double s0, .double s1, .double s2, .double s3] (.double 0)) (f5 : Arv Z h0 rc k_rc (.object "com/example/rainyday/rainyday/ExactSum") (4 : Int32) [g0, g1, g2, g3] (.null)) (u0 : a ≠ ra) (u1 : a ≠ rb) (u2 : a ≠ rc) (u3 : ra ≠ rb) (u4 : ra ≠ rc) (u5 : rb ≠ rc) (w0 : n0 ≤ ra) (w1 : n0 ≤ rb) (w2 : n0 ≤ rc)  :
    Own.Con l Z mn_5 [] prog_6_method_2_code 2 none ({ frames := 0, cells := 0, slots := 0, locals := 0 } : Room) #[.ref a, .int (3 : Int32)] h0 n0 (fun v h => v = none ∧ Keep h0 h [ra, rb, rc] ∧ Arv Z h ra k_ra .double (4 : Int32) [.double r0, .double r1, .double r2, .double 0] (.double 0) ∧ Arv Z h rb k_rb .double (4 : Int32) [.double s0, .double s1, .double s2, .double 0] (.double 0) ∧ Arv Z h rc k_rc (.object "com/example/rainyday/rainyday/ExactSum") (4 : Int32) [g0, g1, g2, .null] (.null)) := by
  refine Own.enter (own := "com/example/rainyday/rainyday/ExactSum$TreeSums") (nm := "zero") (plainFor_of_name pn_com_example_rainyday_rainyday_ExactSum_TreeSums) rfl rfl (fun m => ef_3_3 m a (3 : Int32)) fun p e s m below meth c T X => ?_
  refine Own.aloadN X d3_0 rfl rfl ?_
  refine Own.getF_ X d3_1 (host := "") (Or.inl (Own.wd hw 12 rfl)) Via.refl f0 fun T1 X1 => ?_
  refine Own.iloadN X1 d3_4 rfl ?_
  refine Own.dconst0 X1 d3_5 ?_
  refine Own.dastore_ X1 (i := 3) d3_6 f3 (by decide) rfl (Nat.le_of_ble_eq_true rfl) w0 fun T2 h2 X2 W2 V2 => ?_
  have F3 := f0.other W2 (Or.inl u0)
  have F4 := f1.other W2 (Or.inl u0)
  have F5 := f2.other W2 (Or.inl u0)
  have F6 := f4.other W2 (Ne.symm u3)
  have F7 := f5.other W2 (Ne.symm u4)
  have F8 := (Keep.refl h0 [ra, rb, rc]).wr W2 (Or.inl (List.mem_of_getElem? (i := 0) rfl))
  have Z9 : n0 ≤ h2.size := by rw [W2.size]; exact Z0
  have V10 : Arv Z h2 ra k_ra .double (4 : Int32) [.double r0, .double r1, .double r2, .double 0] (.double 0) := V2
  refine Own.aloadN X2 d3_7 rfl rfl ?_
  refine Own.getF_ X2 d3_8 (host := "") (Or.inl (Own.wd hw 14 rfl)) Via.refl F4 fun T11 X11 => ?_
  refine Own.iloadN X11 d3_11 rfl ?_
  refine Own.dconst0 X11 d3_12 ?_
  refine Own.dastore_ X11 (i := 3) d3_13 F6 (by decide) rfl (Nat.le_of_ble_eq_true rfl) w1 fun T12 h12 X12 W12 V12 => ?_
  have F13 := F3.other W12 (Or.inl u1)
  have F14 := F4.other W12 (Or.inl u1)
  have F15 := F5.other W12 (Or.inl u1)
  have F16 := F7.other W12 (Ne.symm u5)
  have F17 := F8.wr W12 (Or.inl (List.mem_of_getElem? (i := 1) rfl))
  have F18 := V10.other W12 u3
  have Z19 : n0 ≤ h12.size := by rw [W12.size]; exact Z9
  have V20 : Arv Z h12 rb k_rb .double (4 : Int32) [.double s0, .double s1, .double s2, .double 0] (.double 0) := V12
  refine Own.aloadN X12 d3_14 rfl rfl ?_
  refine Own.getF_ X12 d3_15 (host := "") (Or.inl (Own.wd hw 18 rfl)) Via.refl F15 fun T21 X21 => ?_
  refine Own.iloadN X21 d3_18 rfl ?_
  refine Own.aconstNull X21 d3_19 ?_
  refine Own.aastore_ X21 (i := 3) d3_20 F16 rfl (by decide) rfl (Nat.le_of_ble_eq_true rfl) w2 rfl (fun _ _ _ => Or.inl rfl) fun T22 h22 X22 W22 V22 => ?_
  have F23 := F13.other W22 (Or.inl u2)
  have F24 := F14.other W22 (Or.inl u2)
  have F25 := F15.other W22 (Or.inl u2)
  have F26 := F17.wr W22 (Or.inl (List.mem_of_getElem? (i := 2) rfl))
  have F27 := F18.other W22 u4
  have F28 := V20.other W22 u5
  have Z29 : n0 ≤ h22.size := by rw [W22.size]; exact Z19
  have V30 : Arv Z h22 rc k_rc (.object "com/example/rainyday/rainyday/ExactSum") (4 : Int32) [g0, g1, g2, .null] (.null) := V22
  exact Own.retV X22 d3_21 ⟨rfl, F26, F27, F28, V30⟩ (by decide) (by decide)
theorem ef_9_3 (m : MethodId) (x0 : Addr) (x1 : Int32) : entryFrame m #[.ref x0, .int x1] 2 = mkF m 0 #[.val (.ref x0), .val (.int x1)] [] := by first | (simp [entryFrame, mkF, argsToLocals, Value.category, maxLocals]; done) | rfl
set_option maxRecDepth 65536 in
set_option maxHeartbeats 40000000 in
theorem rm9_3 (l : Launch) (Z : State) (a0 : Array Value) (hw : ∀ d ∈ tables_1, d.before a0 Z = true) (a : Addr) (ra : Addr) (k_ra : ClassId) (r0 : UInt64) (r1 : UInt64) (r2 : UInt64) (r3 : UInt64) (h0 : Heap) (n0 : Nat) (Z0 : n0 ≤ h0.size) (f0 : Fld Z h0 a "com/example/rainyday/rainyday/ExactSum$TreeSums" "rounded" "[D" (.ref ra)) (f1 : Arv Z h0 ra k_ra .double (4 : Int32) [.double r0, .double r1, .double r2, .double r3] (.double 0))  :
    Own.Con l Z mn_6 [] prog_6_method_5_code 2 (some .double) ({ frames := 0, cells := 0, slots := 0, locals := 0 } : Room) #[.ref a, .int (3 : Int32)] h0 n0 (fun v h => v = some (.double r3) ∧ h0 = h) := by
  refine Own.enter (own := "com/example/rainyday/rainyday/ExactSum$TreeSums") (nm := "value") (plainFor_of_name pn_com_example_rainyday_rainyday_ExactSum_TreeSums) rfl rfl (fun m => ef_9_3 m a (3 : Int32)) fun p e s m below meth c T X => ?_
  refine Own.aloadN X d9_0 rfl rfl ?_
  refine Own.getF_ X d9_1 (host := "") (Or.inl (Own.wd hw 12 rfl)) Via.refl f0 fun T1 X1 => ?_
  refine Own.iloadN X1 d9_4 rfl ?_
  refine Own.daload_ X1 d9_5 f1 (by decide) rfl ?_
  exact Own.retD X1 d9_6 ⟨rfl, rfl⟩ (by decide) (by decide)
theorem ef_8_3 (m : MethodId) (x0 : Addr) (x1 : Int32) : entryFrame m #[.ref x0, .int x1] 2 = mkF m 0 #[.val (.ref x0), .val (.int x1)] [] := by first | (simp [entryFrame, mkF, argsToLocals, Value.category, maxLocals]; done) | rfl
set_option maxRecDepth 65536 in
set_option maxHeartbeats 40000000 in
theorem rm8_3 (l : Launch) (Z : State) (a0 : Array Value) (hw : ∀ d ∈ tables_1, d.before a0 Z = true) (a : Addr) (rb : Addr) (rc : Addr) (k_rb : ClassId) (k_rc : ClassId) (s0 : UInt64) (s1 : UInt64) (s2 : UInt64) (s3 : UInt64) (g0 : Value) (g1 : Value) (g2 : Value) (h0 : Heap) (n0 : Nat) (Z0 : n0 ≤ h0.size) (f0 : Fld Z h0 a "com/example/rainyday/rainyday/ExactSum$TreeSums" "rest" "[D" (.ref rb)) (f1 : Fld Z h0 a "com/example/rainyday/rainyday/ExactSum$TreeSums" "wider" "[Lcom/example/rainyday/rainyday/ExactSum;" (.ref rc)) (f2 : Arv Z h0 rb k_rb .double (4 : Int32) [.double s0, .double s1, .double s2, .double s3] (.double 0)) (f3 : Arv Z h0 rc k_rc (.object "com/example/rainyday/rainyday/ExactSum") (4 : Int32) [g0, g1, g2, .null] (.null)) (n_s3 : NoNaN64 s3)  :
    Own.Con l Z mn_7 [] prog_6_method_6_code 2 (some .boolean) ({ frames := 0, cells := 0, slots := 0, locals := 0 } : Room) #[.ref a, .int (3 : Int32)] h0 n0 (fun v h => v = some (.int (Own.bo (Own.dz s3 = Own.dz 0))) ∧ h0 = h) := by
  refine Own.enter (own := "com/example/rainyday/rainyday/ExactSum$TreeSums") (nm := "isExact") (plainFor_of_name pn_com_example_rainyday_rainyday_ExactSum_TreeSums) rfl rfl (fun m => ef_8_3 m a (3 : Int32)) fun p e s m below meth c T X => ?_
  refine Own.aloadN X d8_0 rfl rfl ?_
  refine Own.getF_ X d8_1 (host := "") (Or.inl (Own.wd hw 14 rfl)) Via.refl f0 fun T1 X1 => ?_
  refine Own.iloadN X1 d8_4 rfl ?_
  refine Own.daload_ X1 d8_5 f2 (by decide) rfl ?_
  refine Own.dconst0 X1 d8_6 ?_
  refine Own.dcmpF X1 (pc' := 24) d8_7 d8_8 (by decide) n_s3 Own.nn_0 (fun (h7 : ¬ (Own.dz s3 = Own.dz 0)) => ?_) (fun h7' => ?_)
  · refine Own.iconst X1 (v := 0) d8_24 rfl ?_
    exact Own.retB X1 d8_25 (by decide) ⟨congrArg (fun z => some (Value.int z)) (Own.bo_f h7), rfl⟩ (by decide) (by decide)
  · have h7 : Own.dz s3 = Own.dz 0 := Classical.not_not.mp h7'
    refine Own.aloadN X1 d8_11 rfl rfl ?_
    refine Own.getF_ X1 d8_12 (host := "") (Or.inl (Own.wd hw 18 rfl)) Via.refl f1 fun T2 X2 => ?_
    refine Own.iloadN X2 d8_15 rfl ?_
    refine Own.aaload_ X2 d8_16 f3 rfl (by decide) rfl ?_
    refine Own.ifnonnullN X2 d8_17 ?_
    refine Own.iconst X2 (v := 1) d8_20 rfl ?_
    refine Own.goto_ X2 (pc' := 25) d8_21 (by decide) ?_
    exact Own.retB X2 d8_25 (by decide) ⟨congrArg (fun z => some (Value.int z)) (Own.bo_t h7), rfl⟩ (by decide) (by decide)
theorem ef_8_3r (m : MethodId) (x0 : Addr) (x1 : Int32) : entryFrame m #[.ref x0, .int x1] 2 = mkF m 0 #[.val (.ref x0), .val (.int x1)] [] := by first | (simp [entryFrame, mkF, argsToLocals, Value.category, maxLocals]; done) | rfl
set_option maxRecDepth 65536 in
set_option maxHeartbeats 40000000 in
theorem rm8_3r (l : Launch) (Z : State) (a0 : Array Value) (hw : ∀ d ∈ tables_1, d.before a0 Z = true) (a : Addr) (rb : Addr) (rc : Addr) (k_rb : ClassId) (k_rc : ClassId) (s0 : UInt64) (s1 : UInt64) (s2 : UInt64) (s3 : UInt64) (g0 : Value) (g1 : Value) (g2 : Value) (gr : Addr) (h0 : Heap) (n0 : Nat) (Z0 : n0 ≤ h0.size) (f0 : Fld Z h0 a "com/example/rainyday/rainyday/ExactSum$TreeSums" "rest" "[D" (.ref rb)) (f1 : Fld Z h0 a "com/example/rainyday/rainyday/ExactSum$TreeSums" "wider" "[Lcom/example/rainyday/rainyday/ExactSum;" (.ref rc)) (f2 : Arv Z h0 rb k_rb .double (4 : Int32) [.double s0, .double s1, .double s2, .double s3] (.double 0)) (f3 : Arv Z h0 rc k_rc (.object "com/example/rainyday/rainyday/ExactSum") (4 : Int32) [g0, g1, g2, .ref gr] (.null)) (n_s3 : NoNaN64 s3)  :
    Own.Con l Z mn_7 [] prog_6_method_6_code 2 (some .boolean) ({ frames := 0, cells := 0, slots := 0, locals := 0 } : Room) #[.ref a, .int (3 : Int32)] h0 n0 (fun v h => v = some (.int (0 : Int32)) ∧ h0 = h) := by
  refine Own.enter (own := "com/example/rainyday/rainyday/ExactSum$TreeSums") (nm := "isExact") (plainFor_of_name pn_com_example_rainyday_rainyday_ExactSum_TreeSums) rfl rfl (fun m => ef_8_3r m a (3 : Int32)) fun p e s m below meth c T X => ?_
  refine Own.aloadN X d8_0 rfl rfl ?_
  refine Own.getF_ X d8_1 (host := "") (Or.inl (Own.wd hw 14 rfl)) Via.refl f0 fun T1 X1 => ?_
  refine Own.iloadN X1 d8_4 rfl ?_
  refine Own.daload_ X1 d8_5 f2 (by decide) rfl ?_
  refine Own.dconst0 X1 d8_6 ?_
  refine Own.dcmpF X1 (pc' := 24) d8_7 d8_8 (by decide) n_s3 Own.nn_0 (fun (h7 : ¬ (Own.dz s3 = Own.dz 0)) => ?_) (fun h7' => ?_)
  · refine Own.iconst X1 (v := 0) d8_24 rfl ?_
    exact Own.retB X1 d8_25 (by decide) ⟨rfl, rfl⟩ (by decide) (by decide)
  · have h7 : Own.dz s3 = Own.dz 0 := Classical.not_not.mp h7'
    refine Own.aloadN X1 d8_11 rfl rfl ?_
    refine Own.getF_ X1 d8_12 (host := "") (Or.inl (Own.wd hw 18 rfl)) Via.refl f1 fun T2 X2 => ?_
    refine Own.iloadN X2 d8_15 rfl ?_
    refine Own.aaload_ X2 d8_16 f3 rfl (by decide) rfl ?_
    refine Own.ifnonnullY X2 (pc' := 24) d8_17 (by decide) ?_
    refine Own.iconst X2 (v := 0) d8_24 rfl ?_
    exact Own.retB X2 d8_25 (by decide) ⟨rfl, rfl⟩ (by decide) (by decide)
theorem ef_10 (m : MethodId) (x0 : Addr) : entryFrame m #[.ref x0] 8 = mkF m 0 #[.val (.ref x0), .unset, .unset, .unset, .unset, .unset, .unset, .unset] [] := by first | (simp [entryFrame, mkF, argsToLocals, Value.category, maxLocals]; done) | rfl
set_option maxRecDepth 65536 in
set_option maxHeartbeats 40000000 in
theorem rm10 (l : Launch) (Z : State) (a0 : Array Value) (hw : ∀ d ∈ tables_1, d.before a0 Z = true) (ps : Addr) (k_ps : ClassId) (e1 : UInt64) (e2 : UInt64) (sm : UInt64) (h0 : Heap) (n0 : Nat) (Z0 : n0 ≤ h0.size) (f0 : Arv Z h0 ps k_ps .double (3 : Int32) [.double e1, .double e2, .double sm] (.double 0)) (B_e1 : Own.Bp e1 1400) (B_e2 : Own.Bp e2 1400) (B_sm : Own.Bp sm 1400) :
    Own.Con l Z mn_10 [] prog_5_method_11_code 8 (some (.object "com/example/rainyday/rainyday/ExactSum")) ({ frames := 2, cells := 1, slots := 2, locals := 28 } : Room) #[.ref ps] h0 n0 (fun v h => ∃ (ob : Addr) (w : UInt64), v = some (.ref ob) ∧ Keep h0 h [] ∧ h0.size ≤ ob ∧ Exa Z h ob "com/example/rainyday/rainyday/ExactSum" ∧ Fld Z h ob "com/example/rainyday/rainyday/ExactSum" "value" "D" (.double w) ∧ Fld Z h ob "com/example/rainyday/rainyday/ExactSum" "parts" "[D" (.ref ps) ∧ Own.Bp w 1450 ∧ (Own.Tiny e2 sm → Own.dz e2 ≠ 0 → Own.dz w = Own.dz sm)) := by
  refine Own.enter (own := "com/example/rainyday/rainyday/ExactSum") (nm := "fromParts") (plainFor_of_name pn_com_example_rainyday_rainyday_ExactSum) rfl rfl (fun m => ef_10 m ps) fun p e s m below meth c T X => ?_
  have n_e1 := B_e1.nn
  have n_e2 := B_e2.nn
  have n_sm := B_sm.nn
  refine Own.aloadN X d10_0 rfl rfl ?_
  refine Own.alen_ X d10_1 f0 ?_
  refine Own.iconst X (v := 1) d10_2 rfl ?_
  refine Own.icmp_ X (pc' := 29) d10_3 (by decide) (fun _ => ?_) (fun q => absurd (show (1 : Int) < (3 : Int) from by decide) q)
  refine Own.aloadN X d10_29 rfl rfl ?_
  refine Own.alen_ X d10_30 f0 ?_
  refine Own.iconst X (v := 1) d10_31 rfl ?_
  refine Own.isub X d10_32 ?_
  show Own.Go p e below s n0 _ _ _ (T.setTop (mkF m 33 _ [.int (2 : Int32)]))
  refine Own.istoreN X d10_33 (l' := #[.val (.ref ps), .val (.int (2 : Int32)), .unset, .unset, .unset, .unset, .unset, .unset]) rfl ?_
  refine Own.aloadN X d10_34 rfl rfl ?_
  refine Own.iloadN X d10_35 rfl ?_
  refine Own.daload_ X d10_36 f0 (by decide) rfl ?_
  refine Own.dstoreN X d10_37 (l' := #[.val (.ref ps), .val (.int (2 : Int32)), .val (.double sm), .second, .unset, .unset, .unset, .unset]) rfl ?_
  refine Own.dconst0 X d10_38 ?_
  refine Own.dstore X d10_39 (l' := #[.val (.ref ps), .val (.int (2 : Int32)), .val (.double sm), .second, .val (.double 0), .second, .unset, .unset]) rfl ?_
  refine Own.dload X d10_41 rfl ?_
  refine Own.dconst0 X d10_43 ?_
  refine Own.dcmpF X (pc' := 79) d10_44 d10_45 (by decide) Own.nn_0 Own.nn_0 (fun q => absurd (show ¬ (Own.dz 0 = Own.dz 0) from q) (show ¬ (¬ (Own.dz 0 = Own.dz 0)) from fun z => z (rfl))) (fun _ => ?_)
  refine Own.iloadN X d10_48 rfl ?_
  refine Own.iff_ X (pc' := 79) d10_49 (by decide) (fun q => absurd (show (2 : Int) ≤ (0 : Int) from q) (show ¬ ((2 : Int) ≤ (0 : Int)) from by decide)) (fun _ => ?_)
  refine Own.iinc X d10_52 rfl (l' := #[.val (.ref ps), .val (.int (1 : Int32)), .val (.double sm), .second, .val (.double 0), .second, .unset, .unset]) rfl ?_
  refine Own.dloadN X d10_55 rfl ?_
  refine Own.aloadN X d10_56 rfl rfl ?_
  refine Own.iloadN X d10_57 rfl ?_
  refine Own.daload_ X d10_58 f0 (by decide) rfl ?_
  obtain ⟨su1, e_su1⟩ : ∃ v, FP.dadd sm e2 = v := ⟨_, rfl⟩
  have B_su1 := Own.Bp.add e_su1 (B_sm.mono (by decide : _ ≤ (1401 : Nat))) (B_e2.mono (by decide : _ ≤ (1401 : Nat))) (by decide)
  have n_su1 := B_su1.nn
  have f_su1 := B_su1.1
  refine Own.dadd X d10_59 e_su1 n_su1 ?_
  refine Own.dstore X d10_60 (l' := #[.val (.ref ps), .val (.int (1 : Int32)), .val (.double sm), .second, .val (.double 0), .second, .val (.double su1), .second]) rfl ?_
  refine Own.dloadN X d10_62 rfl ?_
  refine Own.aloadN X d10_63 rfl rfl ?_
  refine Own.iloadN X d10_64 rfl ?_
  refine Own.daload_ X d10_65 f0 (by decide) rfl ?_
  refine Own.dload X d10_66 rfl ?_
  refine Own.callS_ (y := mn_2) X d10_68 (Own.wd hw 56 rfl) (Own.wd hw 40 rfl) (Own.wd hw 41 rfl) (Own.wd hw 42 rfl) (by decide) (rm7 l Z a0 hw sm e2 su1 h0 n0 Z0  (B_sm.mono (by decide)) (B_e2.mono (by decide)) (B_su1.mono (by decide))) (lenOf pd_8 rfl) rfl (argsL := [.double sm, .double e2, .double su1]) (rest := []) rfl (W := 0) (Nat.le_of_eq rfl) (by decide) (by decide) (by decide) (by decide) fun T1 h1 v1 X1 q1 => ?_
  obtain ⟨rfl, rfl⟩ := q1
  obtain ⟨er1, e_er1⟩ : ∃ v, (Own.re sm e2 su1) = v := ⟨_, rfl⟩
  rw [e_er1]
  have B_er1 : Own.Bp er1 1407 := e_er1 ▸ Own.re_bp (j := 1403) (B_sm.mono (by decide)) (B_e2.mono (by decide)) (B_su1.mono (by decide)) (by decide)
  have n_er1 := B_er1.nn
  have f_er1 := B_er1.1
  show Own.Go p e below s n0 _ _ _ (T1.setTop (mkF m 71 _ [.double er1]))
  refine Own.dstore X1 d10_71 (l' := #[.val (.ref ps), .val (.int (1 : Int32)), .val (.double sm), .second, .val (.double er1), .second, .val (.double su1), .second]) rfl ?_
  refine Own.dload X1 d10_73 rfl ?_
  refine Own.dstoreN X1 d10_75 (l' := #[.val (.ref ps), .val (.int (1 : Int32)), .val (.double su1), .second, .val (.double er1), .second, .val (.double su1), .second]) rfl ?_
  refine Own.goto_ X1 (pc' := 41) d10_76 (by decide) ?_
  refine Own.dload X1 d10_41 rfl ?_
  refine Own.dconst0 X1 d10_43 ?_
  refine Own.dcmpF X1 (pc' := 79) d10_44 d10_45 (by decide) n_er1 Own.nn_0 (fun (h44 : ¬ (Own.dz er1 = Own.dz 0)) => ?_) (fun h44' => ?_)
  · refine Own.dload X1 d10_79 rfl ?_
    refine Own.dconst0 X1 d10_81 ?_
    refine Own.dcmpF X1 (pc' := 134) d10_82 d10_83 (by decide) n_er1 Own.nn_0 (fun q => absurd (show Own.dz er1 = Own.dz 0 from q) (show ¬ (Own.dz er1 = Own.dz 0) from h44)) (fun _ => ?_)
    refine Own.iloadN X1 d10_86 rfl ?_
    refine Own.iff_ X1 (pc' := 134) d10_87 (by decide) (fun q => absurd (show (1 : Int) ≤ (0 : Int) from q) (show ¬ ((1 : Int) ≤ (0 : Int)) from by decide)) (fun _ => ?_)
    refine Own.dload X1 d10_90 rfl ?_
    refine Own.signD_ X1 d10_92 (Own.wd hw 57 rfl) (Own.wd hw 58 rfl) (Own.wd hw 36 rfl) (Own.wd hw 59 rfl) n_er1 (lenOf pd_0 rfl) rfl (W := 0) (Nat.le_of_eq rfl) (by decide) (by decide) (by decide) (by decide) fun T2 X2 => ?_
    show Own.Go p e below s n0 _ _ _ (T2.setTop (mkF m 95 _ [.double (Jvm.signum64 er1)]))
    refine Own.aloadN X2 d10_95 rfl rfl ?_
    refine Own.iloadN X2 d10_96 rfl ?_
    refine Own.iconst X2 (v := 1) d10_97 rfl ?_
    refine Own.isub X2 d10_98 ?_
    show Own.Go p e below s n0 _ _ _ (T2.setTop (mkF m 99 _ [.int (0 : Int32), .ref ps, .double (Jvm.signum64 er1)]))
    refine Own.daload_ X2 d10_99 f0 (by decide) rfl ?_
    refine Own.signD_ X2 d10_100 (Own.wd hw 57 rfl) (Own.wd hw 58 rfl) (Own.wd hw 36 rfl) (Own.wd hw 59 rfl) n_e1 (lenOf pd_0 rfl) rfl (W := 2) (Nat.le_of_eq rfl) (by decide) (by decide) (by decide) (by decide) fun T3 X3 => ?_
    show Own.Go p e below s n0 _ _ _ (T3.setTop (mkF m 103 _ [.double (Jvm.signum64 e1), .double (Jvm.signum64 er1)]))
    refine Own.dcmpF X3 (pc' := 134) d10_103 d10_104 (by decide) (Own.nn_sign n_er1) (Own.nn_sign n_e1) (fun (h103 : ¬ (Own.dz (Jvm.signum64 er1) = Own.dz (Jvm.signum64 e1))) => ?_) (fun h103' => ?_)
    · refine Own.newO_ X3 d10_134 (Own.wd hw 61 rfl) (Own.wd hw 62 rfl) (Own.wd hw 41 rfl) (by decide) (by decide) fun T4 h4 ob g_ob X4 E4 A4 D4 => ?_
      have ne5 : ps ≠ ob := Nat.ne_of_lt (Nat.lt_of_lt_of_le f0.lt (Nat.le_of_eq g_ob.symm))
      have fr6 : n0 ≤ ob := Nat.le_trans Z0 (Nat.le_of_eq g_ob.symm)
      have bn7 : h0.size ≤ ob := Nat.le_trans (Keep.refl h0 []).1 (Nat.le_of_eq g_ob.symm)
      have F8 := f0.ext E4
      have F9 := (Keep.refl h0 []).ext E4
      have Z10 : n0 ≤ h4.size := Nat.le_trans Z0 E4.1
      have F11 : Fld Z h4 ob "com/example/rainyday/rainyday/ExactSum" "value" "D" (.double 0) := D4 (Or.inr (Own.wd hw 68 rfl)) (ty := .double) (by decide)
      have F12 : Fld Z h4 ob "com/example/rainyday/rainyday/ExactSum" "parts" "[D" (.null) := D4 (Or.inr (Own.wd hw 70 rfl)) (ty := (.array .double)) (by decide)
      refine Own.dup X4 d10_137 rfl ?_
      refine Own.dloadN X4 d10_138 rfl ?_
      refine Own.aloadN X4 d10_139 rfl rfl ?_
      refine Own.callI_ (y := mn_3) (a := ob) X4 d10_140 rfl (Own.wd hw 63 rfl) (Own.wd hw 64 rfl) (Own.wd hw 41 rfl) (Own.wd hw 65 rfl) (by decide) (rm12 l Z a0 hw ob su1 ps h4 n0 Z10 fr6 A4 F11 F12) (lenOf pd_9 rfl) rfl (argsL := [.double su1, .ref ps]) (rest := [.ref ob]) rfl (W := 1) (Nat.le_of_eq rfl) (by decide) (by decide) (by decide) (by decide) fun T13 h13 v13 X13 q13 => ?_
      obtain ⟨rfl, K13, G13_0, G13_1⟩ := q13
      have F14 := F8.keep K13 (ninS ne5 nin0)
      have F15 := F9.trans K13 (allS (Or.inr bn7) all0)
      have F16 := A4.keep K13
      have Z17 : n0 ≤ h13.size := Nat.le_trans Z10 K13.1
      show Own.Go p e below s n0 _ _ _ (T13.setTop (mkF m 143 _ [.ref ob]))
      exact Own.retA X13 d10_143 rfl rfl rfl ⟨ob, su1, rfl, F15, bn7, F16, G13_0, G13_1, ⟨B_su1.mono (by decide), fun t _ => Own.tiny_add e_su1 (B_sm.mono (by decide)) (B_e2.mono (by decide)) t⟩⟩ (by decide) (by decide)
    · have h103 : Own.dz (Jvm.signum64 er1) = Own.dz (Jvm.signum64 e1) := Classical.not_not.mp h103'
      refine Own.dloadN X3 d10_107 rfl ?_
      refine Own.ldc2D X3 d10_108 (Own.wd hw 60 rfl) ?_
      refine Own.dload X3 d10_111 rfl ?_
      obtain ⟨dd113, e_dd113⟩ : ∃ v, FP.dmul 4611686018427387904 er1 = v := ⟨_, rfl⟩
      obtain ⟨B_dd113, y_dd113⟩ := Own.dbl_bp e_dd113 (B_er1.mono (by decide : _ ≤ (1410 : Nat))) (by decide)
      have n_dd113 := B_dd113.nn
      have f_dd113 := B_dd113.1
      refine Own.dmul X3 d10_113 e_dd113 n_dd113 ?_
      obtain ⟨ou, e_ou⟩ : ∃ v, FP.dadd su1 dd113 = v := ⟨_, rfl⟩
      have B_ou := Own.Bp.add e_ou (B_su1.mono (by decide : _ ≤ (1411 : Nat))) (B_dd113.mono (by decide : _ ≤ (1411 : Nat))) (by decide)
      have n_ou := B_ou.nn
      have f_ou := B_ou.1
      refine Own.dadd X3 d10_114 e_ou n_ou ?_
      refine Own.dstore X3 d10_115 (l' := #[.val (.ref ps), .val (.int (1 : Int32)), .val (.double su1), .second, .val (.double er1), .second, .val (.double ou), .second]) rfl ?_
      refine Own.dload X3 d10_117 rfl ?_
      refine Own.dloadN X3 d10_119 rfl ?_
      obtain ⟨d120, e_d120⟩ : ∃ v, FP.dsub ou su1 = v := ⟨_, rfl⟩
      have B_d120 := Own.Bp.sub e_d120 (B_ou.mono (by decide : _ ≤ (1412 : Nat))) (B_su1.mono (by decide : _ ≤ (1412 : Nat))) (by decide)
      have n_d120 := B_d120.nn
      have f_d120 := B_d120.1
      refine Own.dsub X3 d10_120 e_d120 n_d120 ?_
      refine Own.ldc2D X3 d10_121 (Own.wd hw 60 rfl) ?_
      refine Own.dload X3 d10_124 rfl ?_
      obtain ⟨dd126, e_dd126⟩ : ∃ v, FP.dmul 4611686018427387904 er1 = v := ⟨_, rfl⟩
      obtain ⟨B_dd126, y_dd126⟩ := Own.dbl_bp e_dd126 (B_er1.mono (by decide : _ ≤ (1410 : Nat))) (by decide)
      have n_dd126 := B_dd126.nn
      have f_dd126 := B_dd126.1
      refine Own.dmul X3 d10_126 e_dd126 n_dd126 ?_
      refine Own.dcmpF X3 (pc' := 134) d10_127 d10_128 (by decide) n_d120 n_dd126 (fun (h127 : ¬ (Own.dz d120 = Own.dz dd126)) => ?_) (fun h127' => ?_)
      · refine Own.newO_ X3 d10_134 (Own.wd hw 61 rfl) (Own.wd hw 62 rfl) (Own.wd hw 41 rfl) (by decide) (by decide) fun T18 h18 ob g_ob X18 E18 A18 D18 => ?_
        have ne19 : ps ≠ ob := Nat.ne_of_lt (Nat.lt_of_lt_of_le f0.lt (Nat.le_of_eq g_ob.symm))
        have fr20 : n0 ≤ ob := Nat.le_trans Z0 (Nat.le_of_eq g_ob.symm)
        have bn21 : h0.size ≤ ob := Nat.le_trans (Keep.refl h0 []).1 (Nat.le_of_eq g_ob.symm)
        have F22 := f0.ext E18
        have F23 := (Keep.refl h0 []).ext E18
        have Z24 : n0 ≤ h18.size := Nat.le_trans Z0 E18.1
        have F25 : Fld Z h18 ob "com/example/rainyday/rainyday/ExactSum" "value" "D" (.double 0) := D18 (Or.inr (Own.wd hw 68 rfl)) (ty := .double) (by decide)
        have F26 : Fld Z h18 ob "com/example/rainyday/rainyday/ExactSum" "parts" "[D" (.null) := D18 (Or.inr (Own.wd hw 70 rfl)) (ty := (.array .double)) (by decide)
        refine Own.dup X18 d10_137 rfl ?_
        refine Own.dloadN X18 d10_138 rfl ?_
        refine Own.aloadN X18 d10_139 rfl rfl ?_
        refine Own.callI_ (y := mn_3) (a := ob) X18 d10_140 rfl (Own.wd hw 63 rfl) (Own.wd hw 64 rfl) (Own.wd hw 41 rfl) (Own.wd hw 65 rfl) (by decide) (rm12 l Z a0 hw ob su1 ps h18 n0 Z24 fr20 A18 F25 F26) (lenOf pd_9 rfl) rfl (argsL := [.double su1, .ref ps]) (rest := [.ref ob]) rfl (W := 1) (Nat.le_of_eq rfl) (by decide) (by decide) (by decide) (by decide) fun T27 h27 v27 X27 q27 => ?_
        obtain ⟨rfl, K27, G27_0, G27_1⟩ := q27
        have F28 := F22.keep K27 (ninS ne19 nin0)
        have F29 := F23.trans K27 (allS (Or.inr bn21) all0)
        have F30 := A18.keep K27
        have Z31 : n0 ≤ h27.size := Nat.le_trans Z24 K27.1
        show Own.Go p e below s n0 _ _ _ (T27.setTop (mkF m 143 _ [.ref ob]))
        exact Own.retA X27 d10_143 rfl rfl rfl ⟨ob, su1, rfl, F29, bn21, F30, G27_0, G27_1, ⟨B_su1.mono (by decide), fun t _ => Own.tiny_add e_su1 (B_sm.mono (by decide)) (B_e2.mono (by decide)) t⟩⟩ (by decide) (by decide)
      · have h127 : Own.dz d120 = Own.dz dd126 := Classical.not_not.mp h127'
        refine Own.dload X3 d10_131 rfl ?_
        refine Own.dstoreN X3 d10_133 (l' := #[.val (.ref ps), .val (.int (1 : Int32)), .val (.double ou), .second, .val (.double er1), .second, .val (.double ou), .second]) rfl ?_
        refine Own.newO_ X3 d10_134 (Own.wd hw 61 rfl) (Own.wd hw 62 rfl) (Own.wd hw 41 rfl) (by decide) (by decide) fun T32 h32 ob g_ob X32 E32 A32 D32 => ?_
        have ne33 : ps ≠ ob := Nat.ne_of_lt (Nat.lt_of_lt_of_le f0.lt (Nat.le_of_eq g_ob.symm))
        have fr34 : n0 ≤ ob := Nat.le_trans Z0 (Nat.le_of_eq g_ob.symm)
        have bn35 : h0.size ≤ ob := Nat.le_trans (Keep.refl h0 []).1 (Nat.le_of_eq g_ob.symm)
        have F36 := f0.ext E32
        have F37 := (Keep.refl h0 []).ext E32
        have Z38 : n0 ≤ h32.size := Nat.le_trans Z0 E32.1
        have F39 : Fld Z h32 ob "com/example/rainyday/rainyday/ExactSum" "value" "D" (.double 0) := D32 (Or.inr (Own.wd hw 68 rfl)) (ty := .double) (by decide)
        have F40 : Fld Z h32 ob "com/example/rainyday/rainyday/ExactSum" "parts" "[D" (.null) := D32 (Or.inr (Own.wd hw 70 rfl)) (ty := (.array .double)) (by decide)
        refine Own.dup X32 d10_137 rfl ?_
        refine Own.dloadN X32 d10_138 rfl ?_
        refine Own.aloadN X32 d10_139 rfl rfl ?_
        refine Own.callI_ (y := mn_3) (a := ob) X32 d10_140 rfl (Own.wd hw 63 rfl) (Own.wd hw 64 rfl) (Own.wd hw 41 rfl) (Own.wd hw 65 rfl) (by decide) (rm12 l Z a0 hw ob ou ps h32 n0 Z38 fr34 A32 F39 F40) (lenOf pd_9 rfl) rfl (argsL := [.double ou, .ref ps]) (rest := [.ref ob]) rfl (W := 1) (Nat.le_of_eq rfl) (by decide) (by decide) (by decide) (by decide) fun T41 h41 v41 X41 q41 => ?_
        obtain ⟨rfl, K41, G41_0, G41_1⟩ := q41
        have F42 := F36.keep K41 (ninS ne33 nin0)
        have F43 := F37.trans K41 (allS (Or.inr bn35) all0)
        have F44 := A32.keep K41
        have Z45 : n0 ≤ h41.size := Nat.le_trans Z38 K41.1
        show Own.Go p e below s n0 _ _ _ (T41.setTop (mkF m 143 _ [.ref ob]))
        exact Own.retA X41 d10_143 rfl rfl rfl ⟨ob, ou, rfl, F43, bn35, F44, G41_0, G41_1, ⟨B_ou.mono (by decide), fun t z => absurd (own_fp1 B_sm B_e2 e_su1 e_er1 e_dd113 e_ou e_d120 e_dd126 h127 t) z⟩⟩ (by decide) (by decide)
  · have h44 : Own.dz er1 = Own.dz 0 := Classical.not_not.mp h44'
    have h44a := h44
    refine Own.iloadN X1 d10_48 rfl ?_
    refine Own.iff_ X1 (pc' := 79) d10_49 (by decide) (fun q => absurd (show (1 : Int) ≤ (0 : Int) from q) (show ¬ ((1 : Int) ≤ (0 : Int)) from by decide)) (fun _ => ?_)
    refine Own.iinc X1 d10_52 rfl (l' := #[.val (.ref ps), .val (.int (0 : Int32)), .val (.double su1), .second, .val (.double er1), .second, .val (.double su1), .second]) rfl ?_
    refine Own.dloadN X1 d10_55 rfl ?_
    refine Own.aloadN X1 d10_56 rfl rfl ?_
    refine Own.iloadN X1 d10_57 rfl ?_
    refine Own.daload_ X1 d10_58 f0 (by decide) rfl ?_
    obtain ⟨su0, e_su0⟩ : ∃ v, FP.dadd su1 e1 = v := ⟨_, rfl⟩
    have B_su0 := Own.Bp.add e_su0 (B_su1.mono (by decide : _ ≤ (1402 : Nat))) (B_e1.mono (by decide : _ ≤ (1402 : Nat))) (by decide)
    have n_su0 := B_su0.nn
    have f_su0 := B_su0.1
    refine Own.dadd X1 d10_59 e_su0 n_su0 ?_
    refine Own.dstore X1 d10_60 (l' := #[.val (.ref ps), .val (.int (0 : Int32)), .val (.double su1), .second, .val (.double er1), .second, .val (.double su0), .second]) rfl ?_
    refine Own.dloadN X1 d10_62 rfl ?_
    refine Own.aloadN X1 d10_63 rfl rfl ?_
    refine Own.iloadN X1 d10_64 rfl ?_
    refine Own.daload_ X1 d10_65 f0 (by decide) rfl ?_
    refine Own.dload X1 d10_66 rfl ?_
    refine Own.callS_ (y := mn_2) X1 d10_68 (Own.wd hw 56 rfl) (Own.wd hw 40 rfl) (Own.wd hw 41 rfl) (Own.wd hw 42 rfl) (by decide) (rm7 l Z a0 hw su1 e1 su0 h0 n0 Z0  (B_su1.mono (by decide)) (B_e1.mono (by decide)) (B_su0.mono (by decide))) (lenOf pd_8 rfl) rfl (argsL := [.double su1, .double e1, .double su0]) (rest := []) rfl (W := 0) (Nat.le_of_eq rfl) (by decide) (by decide) (by decide) (by decide) fun T46 h46 v46 X46 q46 => ?_
    obtain ⟨rfl, rfl⟩ := q46
    obtain ⟨er0, e_er0⟩ : ∃ v, (Own.re su1 e1 su0) = v := ⟨_, rfl⟩
    rw [e_er0]
    have B_er0 : Own.Bp er0 1407 := e_er0 ▸ Own.re_bp (j := 1403) (B_su1.mono (by decide)) (B_e1.mono (by decide)) (B_su0.mono (by decide)) (by decide)
    have n_er0 := B_er0.nn
    have f_er0 := B_er0.1
    show Own.Go p e below s n0 _ _ _ (T46.setTop (mkF m 71 _ [.double er0]))
    refine Own.dstore X46 d10_71 (l' := #[.val (.ref ps), .val (.int (0 : Int32)), .val (.double su1), .second, .val (.double er0), .second, .val (.double su0), .second]) rfl ?_
    refine Own.dload X46 d10_73 rfl ?_
    refine Own.dstoreN X46 d10_75 (l' := #[.val (.ref ps), .val (.int (0 : Int32)), .val (.double su0), .second, .val (.double er0), .second, .val (.double su0), .second]) rfl ?_
    refine Own.goto_ X46 (pc' := 41) d10_76 (by decide) ?_
    refine Own.dload X46 d10_41 rfl ?_
    refine Own.dconst0 X46 d10_43 ?_
    refine Own.dcmpF X46 (pc' := 79) d10_44 d10_45 (by decide) n_er0 Own.nn_0 (fun (h44 : ¬ (Own.dz er0 = Own.dz 0)) => ?_) (fun h44' => ?_)
    · refine Own.dload X46 d10_79 rfl ?_
      refine Own.dconst0 X46 d10_81 ?_
      refine Own.dcmpF X46 (pc' := 134) d10_82 d10_83 (by decide) n_er0 Own.nn_0 (fun q => absurd (show Own.dz er0 = Own.dz 0 from q) (show ¬ (Own.dz er0 = Own.dz 0) from h44)) (fun _ => ?_)
      refine Own.iloadN X46 d10_86 rfl ?_
      refine Own.iff_ X46 (pc' := 134) d10_87 (by decide) (fun _ => ?_) (fun q => absurd (show (0 : Int) ≤ (0 : Int) from by decide) q)
      refine Own.newO_ X46 d10_134 (Own.wd hw 61 rfl) (Own.wd hw 62 rfl) (Own.wd hw 41 rfl) (by decide) (by decide) fun T47 h47 ob g_ob X47 E47 A47 D47 => ?_
      have ne48 : ps ≠ ob := Nat.ne_of_lt (Nat.lt_of_lt_of_le f0.lt (Nat.le_of_eq g_ob.symm))
      have fr49 : n0 ≤ ob := Nat.le_trans Z0 (Nat.le_of_eq g_ob.symm)
      have bn50 : h0.size ≤ ob := Nat.le_trans (Keep.refl h0 []).1 (Nat.le_of_eq g_ob.symm)
      have F51 := f0.ext E47
      have F52 := (Keep.refl h0 []).ext E47
      have Z53 : n0 ≤ h47.size := Nat.le_trans Z0 E47.1
      have F54 : Fld Z h47 ob "com/example/rainyday/rainyday/ExactSum" "value" "D" (.double 0) := D47 (Or.inr (Own.wd hw 68 rfl)) (ty := .double) (by decide)
      have F55 : Fld Z h47 ob "com/example/rainyday/rainyday/ExactSum" "parts" "[D" (.null) := D47 (Or.inr (Own.wd hw 70 rfl)) (ty := (.array .double)) (by decide)
      refine Own.dup X47 d10_137 rfl ?_
      refine Own.dloadN X47 d10_138 rfl ?_
      refine Own.aloadN X47 d10_139 rfl rfl ?_
      refine Own.callI_ (y := mn_3) (a := ob) X47 d10_140 rfl (Own.wd hw 63 rfl) (Own.wd hw 64 rfl) (Own.wd hw 41 rfl) (Own.wd hw 65 rfl) (by decide) (rm12 l Z a0 hw ob su0 ps h47 n0 Z53 fr49 A47 F54 F55) (lenOf pd_9 rfl) rfl (argsL := [.double su0, .ref ps]) (rest := [.ref ob]) rfl (W := 1) (Nat.le_of_eq rfl) (by decide) (by decide) (by decide) (by decide) fun T56 h56 v56 X56 q56 => ?_
      obtain ⟨rfl, K56, G56_0, G56_1⟩ := q56
      have F57 := F51.keep K56 (ninS ne48 nin0)
      have F58 := F52.trans K56 (allS (Or.inr bn50) all0)
      have F59 := A47.keep K56
      have Z60 : n0 ≤ h56.size := Nat.le_trans Z53 K56.1
      show Own.Go p e below s n0 _ _ _ (T56.setTop (mkF m 143 _ [.ref ob]))
      exact Own.retA X56 d10_143 rfl rfl rfl ⟨ob, su0, rfl, F58, bn50, F59, G56_0, G56_1, ⟨B_su0.mono (by decide), fun t z => absurd (own_fp0 B_sm B_e2 e_su1 e_er1 h44a t) z⟩⟩ (by decide) (by decide)
    · have h44 : Own.dz er0 = Own.dz 0 := Classical.not_not.mp h44'
      refine Own.iloadN X46 d10_48 rfl ?_
      refine Own.iff_ X46 (pc' := 79) d10_49 (by decide) (fun _ => ?_) (fun q => absurd (show (0 : Int) ≤ (0 : Int) from by decide) q)
      refine Own.dload X46 d10_79 rfl ?_
      refine Own.dconst0 X46 d10_81 ?_
      refine Own.dcmpF X46 (pc' := 134) d10_82 d10_83 (by decide) n_er0 Own.nn_0 (fun _ => ?_) (fun q => absurd (show Own.dz er0 = Own.dz 0 from h44) q)
      refine Own.newO_ X46 d10_134 (Own.wd hw 61 rfl) (Own.wd hw 62 rfl) (Own.wd hw 41 rfl) (by decide) (by decide) fun T61 h61 ob g_ob X61 E61 A61 D61 => ?_
      have ne62 : ps ≠ ob := Nat.ne_of_lt (Nat.lt_of_lt_of_le f0.lt (Nat.le_of_eq g_ob.symm))
      have fr63 : n0 ≤ ob := Nat.le_trans Z0 (Nat.le_of_eq g_ob.symm)
      have bn64 : h0.size ≤ ob := Nat.le_trans (Keep.refl h0 []).1 (Nat.le_of_eq g_ob.symm)
      have F65 := f0.ext E61
      have F66 := (Keep.refl h0 []).ext E61
      have Z67 : n0 ≤ h61.size := Nat.le_trans Z0 E61.1
      have F68 : Fld Z h61 ob "com/example/rainyday/rainyday/ExactSum" "value" "D" (.double 0) := D61 (Or.inr (Own.wd hw 68 rfl)) (ty := .double) (by decide)
      have F69 : Fld Z h61 ob "com/example/rainyday/rainyday/ExactSum" "parts" "[D" (.null) := D61 (Or.inr (Own.wd hw 70 rfl)) (ty := (.array .double)) (by decide)
      refine Own.dup X61 d10_137 rfl ?_
      refine Own.dloadN X61 d10_138 rfl ?_
      refine Own.aloadN X61 d10_139 rfl rfl ?_
      refine Own.callI_ (y := mn_3) (a := ob) X61 d10_140 rfl (Own.wd hw 63 rfl) (Own.wd hw 64 rfl) (Own.wd hw 41 rfl) (Own.wd hw 65 rfl) (by decide) (rm12 l Z a0 hw ob su0 ps h61 n0 Z67 fr63 A61 F68 F69) (lenOf pd_9 rfl) rfl (argsL := [.double su0, .ref ps]) (rest := [.ref ob]) rfl (W := 1) (Nat.le_of_eq rfl) (by decide) (by decide) (by decide) (by decide) fun T70 h70 v70 X70 q70 => ?_
      obtain ⟨rfl, K70, G70_0, G70_1⟩ := q70
      have F71 := F65.keep K70 (ninS ne62 nin0)
      have F72 := F66.trans K70 (allS (Or.inr bn64) all0)
      have F73 := A61.keep K70
      have Z74 : n0 ≤ h70.size := Nat.le_trans Z67 K70.1
      show Own.Go p e below s n0 _ _ _ (T70.setTop (mkF m 143 _ [.ref ob]))
      exact Own.retA X70 d10_143 rfl rfl rfl ⟨ob, su0, rfl, F72, bn64, F73, G70_0, G70_1, ⟨B_su0.mono (by decide), fun t z => absurd (own_fp0 B_sm B_e2 e_su1 e_er1 h44a t) z⟩⟩ (by decide) (by decide)
theorem ef_13 (m : MethodId) (x0 : Addr) (x1 : Int32) (x2 : Addr) : entryFrame m #[.ref x0, .int x1, .ref x2] 3 = mkF m 0 #[.val (.ref x0), .val (.int x1), .val (.ref x2)] [] := by first | (simp [entryFrame, mkF, argsToLocals, Value.category, maxLocals]; done) | rfl
set_option maxRecDepth 65536 in
set_option maxHeartbeats 40000000 in
theorem rm13 (l : Launch) (Z : State) (a0 : Array Value) (hw : ∀ d ∈ tables_1, d.before a0 Z = true) (a : Addr) (ob : Addr) (ra : Addr) (rb : Addr) (rc : Addr) (k_ra : ClassId) (k_rb : ClassId) (k_rc : ClassId) (r0 : UInt64) (r1 : UInt64) (r2 : UInt64) (r3 : UInt64) (s0 : UInt64) (s1 : UInt64) (s2 : UInt64) (s3 : UInt64) (w : UInt64) (ps : Addr) (h0 : Heap) (n0 : Nat) (Z0 : n0 ≤ h0.size) (f0 : Fld Z h0 a "com/example/rainyday/rainyday/ExactSum$TreeSums" "rounded" "[D" (.ref ra)) (f1 : Fld Z h0 a "com/example/rainyday/rainyday/ExactSum$TreeSums" "rest" "[D" (.ref rb)) (f2 : Fld Z h0 a "com/example/rainyday/rainyday/ExactSum$TreeSums" "wider" "[Lcom/example/rainyday/rainyday/ExactSum;" (.ref rc)) (f3 : Arv Z h0 ra k_ra .double (4 : Int32) [.double r0, .double r1, .double r2, .double r3] (.double 0)) (f4 : Arv Z h0 rb k_rb .double (4 : Int32) [.double s0, .double s1, .double s2, .double s3] (.double 0)) (f5 : Arv Z h0 rc k_rc (.object "com/example/rainyday/rainyday/ExactSum") (4 : Int32) [.null, .null, .null, .null] (.null)) (f6 : Exa Z h0 ob "com/example/rainyday/rainyday/ExactSum") (f7 : Fld Z h0 ob "com/example/rainyday/rainyday/ExactSum" "value" "D" (.double w)) (f8 : Fld Z h0 ob "com/example/rainyday/rainyday/ExactSum" "parts" "[D" (.ref ps)) (u0 : a ≠ ra) (u1 : a ≠ rb) (u2 : a ≠ rc) (u3 : ra ≠ rb) (u4 : ra ≠ rc) (u5 : rb ≠ rc) (u6 : ob ≠ ra) (u7 : ob ≠ rb) (u8 : ob ≠ rc) (w0 : n0 ≤ ra) (w1 : n0 ≤ rb) (w2 : n0 ≤ rc) (Ov : Ovr Z k_rc "com/example/rainyday/rainyday/ExactSum") :
    Own.Con l Z mn_11 [] prog_6_method_4_code 3 none ({ frames := 0, cells := 0, slots := 0, locals := 0 } : Room) #[.ref a, .int (3 : Int32), .ref ob] h0 n0 (fun v h => v = none ∧ Keep h0 h [ra, rb, rc] ∧ Arv Z h ra k_ra .double (4 : Int32) [.double r0, .double r1, .double r2, .double w] (.double 0) ∧ Arv Z h rb k_rb .double (4 : Int32) [.double s0, .double s1, .double s2, .double 0] (.double 0) ∧ Arv Z h rc k_rc (.object "com/example/rainyday/rainyday/ExactSum") (4 : Int32) [.null, .null, .null, .ref ob] (.null)) := by
  refine Own.enter (own := "com/example/rainyday/rainyday/ExactSum$TreeSums") (nm := "store") (plainFor_of_name pn_com_example_rainyday_rainyday_ExactSum_TreeSums) rfl rfl (fun m => ef_13 m a (3 : Int32) ob) fun p e s m below meth c T X => ?_
  refine Own.aloadN X d13_0 rfl rfl ?_
  refine Own.getF_ X d13_1 (host := "") (Or.inl (Own.wd hw 12 rfl)) Via.refl f0 fun T1 X1 => ?_
  refine Own.iloadN X1 d13_4 rfl ?_
  refine Own.aloadN X1 d13_5 rfl rfl ?_
  refine Own.getF_ X1 d13_6 (Or.inr (Own.wd hw 75 rfl)) Via.refl f7 fun T2 X2 => ?_
  refine Own.dastore_ X2 (i := 3) d13_9 f3 (by decide) rfl (Nat.le_of_ble_eq_true rfl) w0 fun T3 h3 X3 W3 V3 => ?_
  have F4 := f0.other W3 (Or.inl u0)
  have F5 := f1.other W3 (Or.inl u0)
  have F6 := f2.other W3 (Or.inl u0)
  have F7 := f4.other W3 (Ne.symm u3)
  have F8 := f5.other W3 (Ne.symm u4)
  have F9 := f6.wr W3
  have F10 := f7.other W3 (Or.inl u6)
  have F11 := f8.other W3 (Or.inl u6)
  have F12 := (Keep.refl h0 [ra, rb, rc]).wr W3 (Or.inl (List.mem_of_getElem? (i := 0) rfl))
  have Z13 : n0 ≤ h3.size := by rw [W3.size]; exact Z0
  have V14 : Arv Z h3 ra k_ra .double (4 : Int32) [.double r0, .double r1, .double r2, .double w] (.double 0) := V3
  refine Own.aloadN X3 d13_10 rfl rfl ?_
  refine Own.getF_ X3 d13_11 (host := "") (Or.inl (Own.wd hw 14 rfl)) Via.refl F5 fun T15 X15 => ?_
  refine Own.iloadN X15 d13_14 rfl ?_
  refine Own.dconst0 X15 d13_15 ?_
  refine Own.dastore_ X15 (i := 3) d13_16 F7 (by decide) rfl (Nat.le_of_ble_eq_true rfl) w1 fun T16 h16 X16 W16 V16 => ?_
  have F17 := F4.other W16 (Or.inl u1)
  have F18 := F5.other W16 (Or.inl u1)
  have F19 := F6.other W16 (Or.inl u1)
  have F20 := F8.other W16 (Ne.symm u5)
  have F21 := F9.wr W16
  have F22 := F10.other W16 (Or.inl u7)
  have F23 := F11.other W16 (Or.inl u7)
  have F24 := F12.wr W16 (Or.inl (List.mem_of_getElem? (i := 1) rfl))
  have F25 := V14.other W16 u3
  have Z26 : n0 ≤ h16.size := by rw [W16.size]; exact Z13
  have V27 : Arv Z h16 rb k_rb .double (4 : Int32) [.double s0, .double s1, .double s2, .double 0] (.double 0) := V16
  refine Own.aloadN X16 d13_17 rfl rfl ?_
  refine Own.getF_ X16 d13_18 (host := "") (Or.inl (Own.wd hw 18 rfl)) Via.refl F19 fun T28 X28 => ?_
  refine Own.iloadN X28 d13_21 rfl ?_
  refine Own.aloadN X28 d13_22 rfl rfl ?_
  refine Own.getF_ X28 d13_23 (Or.inr (Own.wd hw 76 rfl)) Via.refl F23 fun T29 X29 => ?_
  refine Own.ifnonnullY X29 (pc' := 33) d13_26 (by decide) ?_
  refine Own.aloadN X29 d13_33 rfl rfl ?_
  refine Own.aastore_ X29 (i := 3) d13_34 F20 rfl (by decide) rfl (Nat.le_of_ble_eq_true rfl) w2 rfl (fun cl A' q' => Sto.ofV A' q' Ov (Ins.self F21)) fun T30 h30 X30 W30 V30 => ?_
  have F31 := F17.other W30 (Or.inl u2)
  have F32 := F18.other W30 (Or.inl u2)
  have F33 := F19.other W30 (Or.inl u2)
  have F34 := F21.wr W30
  have F35 := F22.other W30 (Or.inl u8)
  have F36 := F23.other W30 (Or.inl u8)
  have F37 := F24.wr W30 (Or.inl (List.mem_of_getElem? (i := 2) rfl))
  have F38 := F25.other W30 u4
  have F39 := V27.other W30 u5
  have Z40 : n0 ≤ h30.size := by rw [W30.size]; exact Z26
  have V41 : Arv Z h30 rc k_rc (.object "com/example/rainyday/rainyday/ExactSum") (4 : Int32) [.null, .null, .null, .ref ob] (.null) := V30
  exact Own.retV X30 d13_35 ⟨rfl, F37, F38, F39, V41⟩ (by decide) (by decide)
theorem ef_4_a (m : MethodId) (x0 : Addr) (x1 : Int32) (x2 : Int32) (x3 : UInt64) : entryFrame m #[.ref x0, .int x1, .int x2, .double x3] 21 = mkF m 0 #[.val (.ref x0), .val (.int x1), .val (.int x2), .val (.double x3), .second, .unset, .unset, .unset, .unset, .unset, .unset, .unset, .unset, .unset, .unset, .unset, .unset, .unset, .unset, .unset, .unset] [] := by first | (simp [entryFrame, mkF, argsToLocals, Value.category, maxLocals]; done) | rfl
set_option maxRecDepth 65536 in
set_option maxHeartbeats 40000000 in
theorem rm4_a (l : Launch) (Z : State) (a0 : Array Value) (hw : ∀ d ∈ tables_1, d.before a0 Z = true) (a : Addr) (ad : UInt64) (ra : Addr) (rb : Addr) (rc : Addr) (k_ra : ClassId) (k_rb : ClassId) (k_rc : ClassId) (r0 : UInt64) (r1 : UInt64) (r2 : UInt64) (r3 : UInt64) (s0 : UInt64) (s1 : UInt64) (s2 : UInt64) (s3 : UInt64) (h0 : Heap) (n0 : Nat) (Z0 : n0 ≤ h0.size) (f0 : Fld Z h0 a "com/example/rainyday/rainyday/ExactSum$TreeSums" "rounded" "[D" (.ref ra)) (f1 : Fld Z h0 a "com/example/rainyday/rainyday/ExactSum$TreeSums" "rest" "[D" (.ref rb)) (f2 : Fld Z h0 a "com/example/rainyday/rainyday/ExactSum$TreeSums" "wider" "[Lcom/example/rainyday/rainyday/ExactSum;" (.ref rc)) (f3 : Arv Z h0 ra k_ra .double (4 : Int32) [.double r0, .double r1, .double r2, .double r3] (.double 0)) (f4 : Arv Z h0 rb k_rb .double (4 : Int32) [.double s0, .double s1, .double s2, .double s3] (.double 0)) (f5 : Arv Z h0 rc k_rc (.object "com/example/rainyday/rainyday/ExactSum") (4 : Int32) [.null, .null, .null, .null] (.null)) (u0 : a ≠ ra) (u1 : a ≠ rb) (u2 : a ≠ rc) (u3 : ra ≠ rb) (u4 : ra ≠ rc) (u5 : rb ≠ rc) (w0 : n0 ≤ ra) (w1 : n0 ≤ rb) (w2 : n0 ≤ rc) (B_ad : Own.Bp ad 1330) (B_s0 : Own.Bp s0 1330) (B_r0 : Own.Bp r0 1330) (z_lo : Own.dz s0 = 0) :
    Own.Con l Z mn_13 [] prog_6_method_3_code 21 none ({ frames := 2, cells := 0, slots := 0, locals := 26 } : Room) #[.ref a, .int (1 : Int32), .int (0 : Int32), .double ad] h0 n0 (fun v h => v = none ∧ Keep h0 h [ra, rb, rc] ∧ Arv Z h ra k_ra .double (4 : Int32) [.double r0, .double (Own.VV ad s0 r0), .double r2, .double r3] (.double 0) ∧ Arv Z h rb k_rb .double (4 : Int32) [.double s0, .double (Own.RR ad s0 r0), .double s2, .double s3] (.double 0) ∧ Arv Z h rc k_rc (.object "com/example/rainyday/rainyday/ExactSum") (4 : Int32) [.null, .null, .null, .null] (.null)) := by
  refine Own.enter (own := "com/example/rainyday/rainyday/ExactSum$TreeSums") (nm := "extend") (plainFor_of_name pn_com_example_rainyday_rainyday_ExactSum_TreeSums) rfl rfl (fun m => ef_4_a m a (1 : Int32) (0 : Int32) ad) fun p e s m below meth c T X => ?_
  refine Own.aloadN X d4_0 rfl rfl ?_
  refine Own.getF_ X d4_1 (host := "") (Or.inl (Own.wd hw 12 rfl)) Via.refl f0 fun T1 X1 => ?_
  refine Own.iloadN X1 d4_4 rfl ?_
  refine Own.daload_ X1 d4_5 f3 (by decide) rfl ?_
  refine Own.dstore X1 d4_6 (l' := #[.val (.ref a), .val (.int (1 : Int32)), .val (.int (0 : Int32)), .val (.double ad), .second, .val (.double r0), .second, .unset, .unset, .unset, .unset, .unset, .unset, .unset, .unset, .unset, .unset, .unset, .unset, .unset, .unset]) rfl ?_
  refine Own.aloadN X1 d4_8 rfl rfl ?_
  refine Own.getF_ X1 d4_9 (host := "") (Or.inl (Own.wd hw 14 rfl)) Via.refl f1 fun T2 X2 => ?_
  refine Own.iloadN X2 d4_12 rfl ?_
  refine Own.daload_ X2 d4_13 f4 (by decide) rfl ?_
  refine Own.dstore X2 d4_14 (l' := #[.val (.ref a), .val (.int (1 : Int32)), .val (.int (0 : Int32)), .val (.double ad), .second, .val (.double r0), .second, .val (.double s0), .second, .unset, .unset, .unset, .unset, .unset, .unset, .unset, .unset, .unset, .unset, .unset, .unset]) rfl ?_
  refine Own.dloadN X2 d4_16 rfl ?_
  refine Own.dload X2 d4_17 rfl ?_
  obtain ⟨ff, e_ff⟩ : ∃ v, FP.dadd ad s0 = v := ⟨_, rfl⟩
  have B_ff := Own.Bp.add e_ff (B_ad.mono (by decide : _ ≤ (1330 : Nat))) (B_s0.mono (by decide : _ ≤ (1330 : Nat))) (by decide)
  have n_ff := B_ff.nn
  have f_ff := B_ff.1
  refine Own.dadd X2 d4_19 e_ff n_ff ?_
  refine Own.dstore X2 d4_20 (l' := #[.val (.ref a), .val (.int (1 : Int32)), .val (.int (0 : Int32)), .val (.double ad), .second, .val (.double r0), .second, .val (.double s0), .second, .val (.double ff), .second, .unset, .unset, .unset, .unset, .unset, .unset, .unset, .unset, .unset, .unset]) rfl ?_
  refine Own.dload X2 d4_22 rfl ?_
  refine Own.dload X2 d4_24 rfl ?_
  obtain ⟨sm, e_sm⟩ : ∃ v, FP.dadd ff r0 = v := ⟨_, rfl⟩
  have B_sm := Own.Bp.add e_sm (B_ff.mono (by decide : _ ≤ (1331 : Nat))) (B_r0.mono (by decide : _ ≤ (1331 : Nat))) (by decide)
  have n_sm := B_sm.nn
  have f_sm := B_sm.1
  refine Own.dadd X2 d4_26 e_sm n_sm ?_
  refine Own.dstore X2 d4_27 (l' := #[.val (.ref a), .val (.int (1 : Int32)), .val (.int (0 : Int32)), .val (.double ad), .second, .val (.double r0), .second, .val (.double s0), .second, .val (.double ff), .second, .val (.double sm), .second, .unset, .unset, .unset, .unset, .unset, .unset, .unset, .unset]) rfl ?_
  refine Own.aloadN X2 d4_29 rfl rfl ?_
  refine Own.getF_ X2 d4_30 (host := "") (Or.inl (Own.wd hw 18 rfl)) Via.refl f2 fun T3 X3 => ?_
  refine Own.iloadN X3 d4_33 rfl ?_
  refine Own.aaload_ X3 d4_34 f5 rfl (by decide) rfl ?_
  refine Own.ifnonnullN X3 d4_35 ?_
  refine Own.dload X3 d4_38 rfl ?_
  refine Own.callS_ (y := mn_1) X3 d4_40 (Own.wd hw 30 rfl) (Own.wd hw 31 rfl) (Own.wd hw 32 rfl) (Own.wd hw 33 rfl) (by decide) (rm5 l Z a0 hw sm h0 n0 Z0  f_sm) (lenOf pd_12 rfl) rfl (argsL := [.double sm]) (rest := []) rfl (W := 0) (Nat.le_of_eq rfl) (by decide) (by decide) (by decide) (by decide) fun T4 h4 v4 X4 q4 => ?_
  obtain ⟨rfl, rfl⟩ := q4
  show Own.Go p e below s n0 _ _ _ (T4.setTop (mkF m 43 _ [.int (1 : Int32)]))
  refine Own.iff_ X4 (pc' := 61) d4_43 (by decide) (fun _ => ?_) (fun q => absurd (show ¬ ((1 : Int) = (0 : Int)) from by decide) q)
  refine Own.dloadN X4 d4_61 rfl ?_
  refine Own.dload X4 d4_62 rfl ?_
  refine Own.dload X4 d4_64 rfl ?_
  refine Own.callSN_ (y := mn_2) X4 d4_66 (Own.wd hw 39 rfl) (Own.wd hw 40 rfl) (Own.wd hw 41 rfl) (Own.wd hw 42 rfl) (by decide) (rm7 l Z a0 hw ad s0 ff h0 n0 Z0  (B_ad.mono (by decide)) (B_s0.mono (by decide)) (B_ff.mono (by decide))) (lenOf pd_8 rfl) rfl (argsL := [.double ad, .double s0, .double ff]) (rest := []) rfl (W := 0) (Nat.le_of_eq rfl) (by decide) (by decide) (by decide) (by decide) fun T5 h5 v5 X5 q5 => ?_
  obtain ⟨rfl, rfl⟩ := q5
  obtain ⟨e1, e_e1⟩ : ∃ v, (Own.re ad s0 ff) = v := ⟨_, rfl⟩
  rw [e_e1]
  have B_e1 : Own.Bp e1 1336 := e_e1 ▸ Own.re_bp (j := 1332) (B_ad.mono (by decide)) (B_s0.mono (by decide)) (B_ff.mono (by decide)) (by decide)
  have n_e1 := B_e1.nn
  have f_e1 := B_e1.1
  show Own.Go p e below s n0 _ _ _ (T5.setTop (mkF m 69 _ [.double e1]))
  refine Own.dstore X5 d4_69 (l' := #[.val (.ref a), .val (.int (1 : Int32)), .val (.int (0 : Int32)), .val (.double ad), .second, .val (.double r0), .second, .val (.double s0), .second, .val (.double ff), .second, .val (.double sm), .second, .val (.double e1), .second, .unset, .unset, .unset, .unset, .unset, .unset]) rfl ?_
  refine Own.dload X5 d4_71 rfl ?_
  refine Own.dload X5 d4_73 rfl ?_
  refine Own.dload X5 d4_75 rfl ?_
  refine Own.callSN_ (y := mn_2) X5 d4_77 (Own.wd hw 39 rfl) (Own.wd hw 40 rfl) (Own.wd hw 41 rfl) (Own.wd hw 42 rfl) (by decide) (rm7 l Z a0 hw ff r0 sm h0 n0 Z0  (B_ff.mono (by decide)) (B_r0.mono (by decide)) (B_sm.mono (by decide))) (lenOf pd_8 rfl) rfl (argsL := [.double ff, .double r0, .double sm]) (rest := []) rfl (W := 0) (Nat.le_of_eq rfl) (by decide) (by decide) (by decide) (by decide) fun T6 h6 v6 X6 q6 => ?_
  obtain ⟨rfl, rfl⟩ := q6
  obtain ⟨e2, e_e2⟩ : ∃ v, (Own.re ff r0 sm) = v := ⟨_, rfl⟩
  rw [e_e2]
  have B_e2 : Own.Bp e2 1336 := e_e2 ▸ Own.re_bp (j := 1332) (B_ff.mono (by decide)) (B_r0.mono (by decide)) (B_sm.mono (by decide)) (by decide)
  have n_e2 := B_e2.nn
  have f_e2 := B_e2.1
  show Own.Go p e below s n0 _ _ _ (T6.setTop (mkF m 80 _ [.double e2]))
  refine Own.dstore X6 d4_80 (l' := #[.val (.ref a), .val (.int (1 : Int32)), .val (.int (0 : Int32)), .val (.double ad), .second, .val (.double r0), .second, .val (.double s0), .second, .val (.double ff), .second, .val (.double sm), .second, .val (.double e1), .second, .val (.double e2), .second, .unset, .unset, .unset, .unset]) rfl ?_
  refine Own.dload X6 d4_82 rfl ?_
  refine Own.dload X6 d4_84 rfl ?_
  obtain ⟨er, e_er⟩ : ∃ v, FP.dadd e1 e2 = v := ⟨_, rfl⟩
  have B_er := Own.Bp.add e_er (B_e1.mono (by decide : _ ≤ (1336 : Nat))) (B_e2.mono (by decide : _ ≤ (1336 : Nat))) (by decide)
  have n_er := B_er.nn
  have f_er := B_er.1
  refine Own.dadd X6 d4_86 e_er n_er ?_
  refine Own.dstore X6 d4_87 (l' := #[.val (.ref a), .val (.int (1 : Int32)), .val (.int (0 : Int32)), .val (.double ad), .second, .val (.double r0), .second, .val (.double s0), .second, .val (.double ff), .second, .val (.double sm), .second, .val (.double e1), .second, .val (.double e2), .second, .val (.double er), .second, .unset, .unset]) rfl ?_
  refine Own.dload X6 d4_89 rfl ?_
  refine Own.dload X6 d4_91 rfl ?_
  refine Own.dload X6 d4_93 rfl ?_
  refine Own.callSN_ (y := mn_2) X6 d4_95 (Own.wd hw 39 rfl) (Own.wd hw 40 rfl) (Own.wd hw 41 rfl) (Own.wd hw 42 rfl) (by decide) (rm7 l Z a0 hw e1 e2 er h0 n0 Z0  (B_e1.mono (by decide)) (B_e2.mono (by decide)) (B_er.mono (by decide))) (lenOf pd_8 rfl) rfl (argsL := [.double e1, .double e2, .double er]) (rest := []) rfl (W := 0) (Nat.le_of_eq rfl) (by decide) (by decide) (by decide) (by decide) fun T7 h7 v7 X7 q7 => ?_
  obtain ⟨rfl, rfl⟩ := q7
  obtain ⟨xx, e_xx⟩ : ∃ v, (Own.re e1 e2 er) = v := ⟨_, rfl⟩
  rw [e_xx]
  have B_xx : Own.Bp xx 1341 := e_xx ▸ Own.re_bp (j := 1337) (B_e1.mono (by decide)) (B_e2.mono (by decide)) (B_er.mono (by decide)) (by decide)
  have n_xx := B_xx.nn
  have f_xx := B_xx.1
  have X_xx : Own.XX ad s0 r0 = xx := by simp only [Own.XX, Own.ER, Own.E2, Own.E1, Own.S1, Own.F1, e_ff, e_sm, e_e1, e_e2, e_er, e_xx]
  obtain ⟨-, -, -, zx⟩ := Own.ext0 (B_ad.mono (by decide)) (B_s0.mono (by decide)) (B_r0.mono (by decide)) z_lo (hi := r0)
  rw [X_xx] at zx
  show Own.Go p e below s n0 _ _ _ (T7.setTop (mkF m 98 _ [.double xx]))
  refine Own.dconst0 X7 d4_98 ?_
  refine Own.dcmpF X7 (pc' := 130) d4_99 d4_100 (by decide) n_xx Own.nn_0 (fun _ => ?_) (fun q => absurd (show Own.dz xx = Own.dz 0 from by rw [Own.dz_0]; exact zx) q)
  refine Own.dload X7 d4_130 rfl ?_
  refine Own.dload X7 d4_132 rfl ?_
  obtain ⟨vv, e_vv⟩ : ∃ v, FP.dadd sm er = v := ⟨_, rfl⟩
  have B_vv := Own.Bp.add e_vv (B_sm.mono (by decide : _ ≤ (1337 : Nat))) (B_er.mono (by decide : _ ≤ (1337 : Nat))) (by decide)
  have n_vv := B_vv.nn
  have f_vv := B_vv.1
  refine Own.dadd X7 d4_134 e_vv n_vv ?_
  refine Own.dstore X7 d4_135 (l' := #[.val (.ref a), .val (.int (1 : Int32)), .val (.int (0 : Int32)), .val (.double ad), .second, .val (.double r0), .second, .val (.double s0), .second, .val (.double ff), .second, .val (.double sm), .second, .val (.double e1), .second, .val (.double e2), .second, .val (.double er), .second, .val (.double vv), .second]) rfl ?_
  refine Own.aloadN X7 d4_137 rfl rfl ?_
  refine Own.getF_ X7 d4_138 (host := "") (Or.inl (Own.wd hw 12 rfl)) Via.refl f0 fun T8 X8 => ?_
  refine Own.iloadN X8 d4_141 rfl ?_
  refine Own.dload X8 d4_142 rfl ?_
  refine Own.dastore_ X8 (i := 1) d4_144 f3 (by decide) rfl (Nat.le_of_ble_eq_true rfl) w0 fun T9 h9 X9 W9 V9 => ?_
  have F10 := f0.other W9 (Or.inl u0)
  have F11 := f1.other W9 (Or.inl u0)
  have F12 := f2.other W9 (Or.inl u0)
  have F13 := f4.other W9 (Ne.symm u3)
  have F14 := f5.other W9 (Ne.symm u4)
  have F15 := (Keep.refl h0 [ra, rb, rc]).wr W9 (Or.inl (List.mem_of_getElem? (i := 0) rfl))
  have Z16 : n0 ≤ h9.size := by rw [W9.size]; exact Z0
  have V17 : Arv Z h9 ra k_ra .double (4 : Int32) [.double r0, .double vv, .double r2, .double r3] (.double 0) := V9
  refine Own.aloadN X9 d4_145 rfl rfl ?_
  refine Own.getF_ X9 d4_146 (host := "") (Or.inl (Own.wd hw 14 rfl)) Via.refl F11 fun T18 X18 => ?_
  refine Own.iloadN X18 d4_149 rfl ?_
  refine Own.dload X18 d4_150 rfl ?_
  refine Own.dload X18 d4_152 rfl ?_
  refine Own.dload X18 d4_154 rfl ?_
  refine Own.callSN_ (y := mn_2) X18 d4_156 (Own.wd hw 39 rfl) (Own.wd hw 40 rfl) (Own.wd hw 41 rfl) (Own.wd hw 42 rfl) (by decide) (rm7 l Z a0 hw sm er vv h9 n0 Z16  (B_sm.mono (by decide)) (B_er.mono (by decide)) (B_vv.mono (by decide))) (lenOf pd_8 rfl) rfl (argsL := [.double sm, .double er, .double vv]) (rest := [.int (1 : Int32), .ref rb]) rfl (W := 2) (Nat.le_of_eq rfl) (by decide) (by decide) (by decide) (by decide) fun T19 h19 v19 X19 q19 => ?_
  obtain ⟨rfl, rfl⟩ := q19
  obtain ⟨rr, e_rr⟩ : ∃ v, (Own.re sm er vv) = v := ⟨_, rfl⟩
  rw [e_rr]
  have B_rr : Own.Bp rr 1342 := e_rr ▸ Own.re_bp (j := 1338) (B_sm.mono (by decide)) (B_er.mono (by decide)) (B_vv.mono (by decide)) (by decide)
  have n_rr := B_rr.nn
  have f_rr := B_rr.1
  show Own.Go p e below s n0 _ _ _ (T19.setTop (mkF m 159 _ [.double rr, .int (1 : Int32), .ref rb]))
  refine Own.dastore_ X19 (i := 1) d4_159 F13 (by decide) rfl (Nat.le_of_ble_eq_true rfl) w1 fun T20 h20 X20 W20 V20 => ?_
  have F21 := F10.other W20 (Or.inl u1)
  have F22 := F11.other W20 (Or.inl u1)
  have F23 := F12.other W20 (Or.inl u1)
  have F24 := F14.other W20 (Ne.symm u5)
  have F25 := F15.wr W20 (Or.inl (List.mem_of_getElem? (i := 1) rfl))
  have F26 := V17.other W20 u3
  have Z27 : n0 ≤ h20.size := by rw [W20.size]; exact Z16
  have V28 : Arv Z h20 rb k_rb .double (4 : Int32) [.double s0, .double rr, .double s2, .double s3] (.double 0) := V20
  refine Own.aloadN X20 d4_160 rfl rfl ?_
  refine Own.getF_ X20 d4_161 (host := "") (Or.inl (Own.wd hw 18 rfl)) Via.refl F23 fun T29 X29 => ?_
  refine Own.iloadN X29 d4_164 rfl ?_
  refine Own.aconstNull X29 d4_165 ?_
  refine Own.aastore_ X29 (i := 1) d4_166 F24 rfl (by decide) rfl (Nat.le_of_ble_eq_true rfl) w2 rfl (fun _ _ _ => Or.inl rfl) fun T30 h30 X30 W30 V30 => ?_
  have F31 := F21.other W30 (Or.inl u2)
  have F32 := F22.other W30 (Or.inl u2)
  have F33 := F23.other W30 (Or.inl u2)
  have F34 := F25.wr W30 (Or.inl (List.mem_of_getElem? (i := 2) rfl))
  have F35 := F26.other W30 u4
  have F36 := V28.other W30 u5
  have Z37 : n0 ≤ h30.size := by rw [W30.size]; exact Z27
  have V38 : Arv Z h30 rc k_rc (.object "com/example/rainyday/rainyday/ExactSum") (4 : Int32) [.null, .null, .null, .null] (.null) := V30
  have X_vv : Own.VV ad s0 r0 = vv := by simp only [Own.VV, Own.ER, Own.E2, Own.E1, Own.S1, Own.F1, e_ff, e_sm, e_e1, e_e2, e_er, e_vv]
  have X_rr : Own.RR ad s0 r0 = rr := by simp only [Own.RR, X_vv, Own.ER, Own.E2, Own.E1, Own.S1, Own.F1, e_ff, e_sm, e_e1, e_e2, e_er, e_rr]
  subst X_vv X_rr
  exact Own.retV X30 d4_167 ⟨rfl, F34, F35, F36, V38⟩ (by decide) (by decide)
theorem ef_4_b (m : MethodId) (x0 : Addr) (x1 : Int32) (x2 : Int32) (x3 : UInt64) : entryFrame m #[.ref x0, .int x1, .int x2, .double x3] 21 = mkF m 0 #[.val (.ref x0), .val (.int x1), .val (.int x2), .val (.double x3), .second, .unset, .unset, .unset, .unset, .unset, .unset, .unset, .unset, .unset, .unset, .unset, .unset, .unset, .unset, .unset, .unset] [] := by first | (simp [entryFrame, mkF, argsToLocals, Value.category, maxLocals]; done) | rfl
set_option maxRecDepth 65536 in
set_option maxHeartbeats 40000000 in
theorem rm4_b (l : Launch) (Z : State) (a0 : Array Value) (hw : ∀ d ∈ tables_1, d.before a0 Z = true) (a : Addr) (ad : UInt64) (ra : Addr) (rb : Addr) (rc : Addr) (k_ra : ClassId) (k_rb : ClassId) (k_rc : ClassId) (r0 : UInt64) (r1 : UInt64) (r2 : UInt64) (r3 : UInt64) (s0 : UInt64) (s1 : UInt64) (s2 : UInt64) (s3 : UInt64) (h0 : Heap) (n0 : Nat) (Z0 : n0 ≤ h0.size) (f0 : Fld Z h0 a "com/example/rainyday/rainyday/ExactSum$TreeSums" "rounded" "[D" (.ref ra)) (f1 : Fld Z h0 a "com/example/rainyday/rainyday/ExactSum$TreeSums" "rest" "[D" (.ref rb)) (f2 : Fld Z h0 a "com/example/rainyday/rainyday/ExactSum$TreeSums" "wider" "[Lcom/example/rainyday/rainyday/ExactSum;" (.ref rc)) (f3 : Arv Z h0 ra k_ra .double (4 : Int32) [.double r0, .double r1, .double r2, .double r3] (.double 0)) (f4 : Arv Z h0 rb k_rb .double (4 : Int32) [.double s0, .double s1, .double s2, .double s3] (.double 0)) (f5 : Arv Z h0 rc k_rc (.object "com/example/rainyday/rainyday/ExactSum") (4 : Int32) [.null, .null, .null, .null] (.null)) (u0 : a ≠ ra) (u1 : a ≠ rb) (u2 : a ≠ rc) (u3 : ra ≠ rb) (u4 : ra ≠ rc) (u5 : rb ≠ rc) (w0 : n0 ≤ ra) (w1 : n0 ≤ rb) (w2 : n0 ≤ rc) (B_ad : Own.Bp ad 1330) (B_s1 : Own.Bp s1 1330) (B_r1 : Own.Bp r1 1330) (z_lo : Own.dz s1 = 0) :
    Own.Con l Z mn_13 [] prog_6_method_3_code 21 none ({ frames := 2, cells := 0, slots := 0, locals := 26 } : Room) #[.ref a, .int (2 : Int32), .int (1 : Int32), .double ad] h0 n0 (fun v h => v = none ∧ Keep h0 h [ra, rb, rc] ∧ Arv Z h ra k_ra .double (4 : Int32) [.double r0, .double r1, .double (Own.VV ad s1 r1), .double r3] (.double 0) ∧ Arv Z h rb k_rb .double (4 : Int32) [.double s0, .double s1, .double (Own.RR ad s1 r1), .double s3] (.double 0) ∧ Arv Z h rc k_rc (.object "com/example/rainyday/rainyday/ExactSum") (4 : Int32) [.null, .null, .null, .null] (.null)) := by
  refine Own.enter (own := "com/example/rainyday/rainyday/ExactSum$TreeSums") (nm := "extend") (plainFor_of_name pn_com_example_rainyday_rainyday_ExactSum_TreeSums) rfl rfl (fun m => ef_4_b m a (2 : Int32) (1 : Int32) ad) fun p e s m below meth c T X => ?_
  refine Own.aloadN X d4_0 rfl rfl ?_
  refine Own.getF_ X d4_1 (host := "") (Or.inl (Own.wd hw 12 rfl)) Via.refl f0 fun T1 X1 => ?_
  refine Own.iloadN X1 d4_4 rfl ?_
  refine Own.daload_ X1 d4_5 f3 (by decide) rfl ?_
  refine Own.dstore X1 d4_6 (l' := #[.val (.ref a), .val (.int (2 : Int32)), .val (.int (1 : Int32)), .val (.double ad), .second, .val (.double r1), .second, .unset, .unset, .unset, .unset, .unset, .unset, .unset, .unset, .unset, .unset, .unset, .unset, .unset, .unset]) rfl ?_
  refine Own.aloadN X1 d4_8 rfl rfl ?_
  refine Own.getF_ X1 d4_9 (host := "") (Or.inl (Own.wd hw 14 rfl)) Via.refl f1 fun T2 X2 => ?_
  refine Own.iloadN X2 d4_12 rfl ?_
  refine Own.daload_ X2 d4_13 f4 (by decide) rfl ?_
  refine Own.dstore X2 d4_14 (l' := #[.val (.ref a), .val (.int (2 : Int32)), .val (.int (1 : Int32)), .val (.double ad), .second, .val (.double r1), .second, .val (.double s1), .second, .unset, .unset, .unset, .unset, .unset, .unset, .unset, .unset, .unset, .unset, .unset, .unset]) rfl ?_
  refine Own.dloadN X2 d4_16 rfl ?_
  refine Own.dload X2 d4_17 rfl ?_
  obtain ⟨ff, e_ff⟩ : ∃ v, FP.dadd ad s1 = v := ⟨_, rfl⟩
  have B_ff := Own.Bp.add e_ff (B_ad.mono (by decide : _ ≤ (1330 : Nat))) (B_s1.mono (by decide : _ ≤ (1330 : Nat))) (by decide)
  have n_ff := B_ff.nn
  have f_ff := B_ff.1
  refine Own.dadd X2 d4_19 e_ff n_ff ?_
  refine Own.dstore X2 d4_20 (l' := #[.val (.ref a), .val (.int (2 : Int32)), .val (.int (1 : Int32)), .val (.double ad), .second, .val (.double r1), .second, .val (.double s1), .second, .val (.double ff), .second, .unset, .unset, .unset, .unset, .unset, .unset, .unset, .unset, .unset, .unset]) rfl ?_
  refine Own.dload X2 d4_22 rfl ?_
  refine Own.dload X2 d4_24 rfl ?_
  obtain ⟨sm, e_sm⟩ : ∃ v, FP.dadd ff r1 = v := ⟨_, rfl⟩
  have B_sm := Own.Bp.add e_sm (B_ff.mono (by decide : _ ≤ (1331 : Nat))) (B_r1.mono (by decide : _ ≤ (1331 : Nat))) (by decide)
  have n_sm := B_sm.nn
  have f_sm := B_sm.1
  refine Own.dadd X2 d4_26 e_sm n_sm ?_
  refine Own.dstore X2 d4_27 (l' := #[.val (.ref a), .val (.int (2 : Int32)), .val (.int (1 : Int32)), .val (.double ad), .second, .val (.double r1), .second, .val (.double s1), .second, .val (.double ff), .second, .val (.double sm), .second, .unset, .unset, .unset, .unset, .unset, .unset, .unset, .unset]) rfl ?_
  refine Own.aloadN X2 d4_29 rfl rfl ?_
  refine Own.getF_ X2 d4_30 (host := "") (Or.inl (Own.wd hw 18 rfl)) Via.refl f2 fun T3 X3 => ?_
  refine Own.iloadN X3 d4_33 rfl ?_
  refine Own.aaload_ X3 d4_34 f5 rfl (by decide) rfl ?_
  refine Own.ifnonnullN X3 d4_35 ?_
  refine Own.dload X3 d4_38 rfl ?_
  refine Own.callS_ (y := mn_1) X3 d4_40 (Own.wd hw 30 rfl) (Own.wd hw 31 rfl) (Own.wd hw 32 rfl) (Own.wd hw 33 rfl) (by decide) (rm5 l Z a0 hw sm h0 n0 Z0  f_sm) (lenOf pd_12 rfl) rfl (argsL := [.double sm]) (rest := []) rfl (W := 0) (Nat.le_of_eq rfl) (by decide) (by decide) (by decide) (by decide) fun T4 h4 v4 X4 q4 => ?_
  obtain ⟨rfl, rfl⟩ := q4
  show Own.Go p e below s n0 _ _ _ (T4.setTop (mkF m 43 _ [.int (1 : Int32)]))
  refine Own.iff_ X4 (pc' := 61) d4_43 (by decide) (fun _ => ?_) (fun q => absurd (show ¬ ((1 : Int) = (0 : Int)) from by decide) q)
  refine Own.dloadN X4 d4_61 rfl ?_
  refine Own.dload X4 d4_62 rfl ?_
  refine Own.dload X4 d4_64 rfl ?_
  refine Own.callSN_ (y := mn_2) X4 d4_66 (Own.wd hw 39 rfl) (Own.wd hw 40 rfl) (Own.wd hw 41 rfl) (Own.wd hw 42 rfl) (by decide) (rm7 l Z a0 hw ad s1 ff h0 n0 Z0  (B_ad.mono (by decide)) (B_s1.mono (by decide)) (B_ff.mono (by decide))) (lenOf pd_8 rfl) rfl (argsL := [.double ad, .double s1, .double ff]) (rest := []) rfl (W := 0) (Nat.le_of_eq rfl) (by decide) (by decide) (by decide) (by decide) fun T5 h5 v5 X5 q5 => ?_
  obtain ⟨rfl, rfl⟩ := q5
  obtain ⟨e1, e_e1⟩ : ∃ v, (Own.re ad s1 ff) = v := ⟨_, rfl⟩
  rw [e_e1]
  have B_e1 : Own.Bp e1 1336 := e_e1 ▸ Own.re_bp (j := 1332) (B_ad.mono (by decide)) (B_s1.mono (by decide)) (B_ff.mono (by decide)) (by decide)
  have n_e1 := B_e1.nn
  have f_e1 := B_e1.1
  show Own.Go p e below s n0 _ _ _ (T5.setTop (mkF m 69 _ [.double e1]))
  refine Own.dstore X5 d4_69 (l' := #[.val (.ref a), .val (.int (2 : Int32)), .val (.int (1 : Int32)), .val (.double ad), .second, .val (.double r1), .second, .val (.double s1), .second, .val (.double ff), .second, .val (.double sm), .second, .val (.double e1), .second, .unset, .unset, .unset, .unset, .unset, .unset]) rfl ?_
  refine Own.dload X5 d4_71 rfl ?_
  refine Own.dload X5 d4_73 rfl ?_
  refine Own.dload X5 d4_75 rfl ?_
  refine Own.callSN_ (y := mn_2) X5 d4_77 (Own.wd hw 39 rfl) (Own.wd hw 40 rfl) (Own.wd hw 41 rfl) (Own.wd hw 42 rfl) (by decide) (rm7 l Z a0 hw ff r1 sm h0 n0 Z0  (B_ff.mono (by decide)) (B_r1.mono (by decide)) (B_sm.mono (by decide))) (lenOf pd_8 rfl) rfl (argsL := [.double ff, .double r1, .double sm]) (rest := []) rfl (W := 0) (Nat.le_of_eq rfl) (by decide) (by decide) (by decide) (by decide) fun T6 h6 v6 X6 q6 => ?_
  obtain ⟨rfl, rfl⟩ := q6
  obtain ⟨e2, e_e2⟩ : ∃ v, (Own.re ff r1 sm) = v := ⟨_, rfl⟩
  rw [e_e2]
  have B_e2 : Own.Bp e2 1336 := e_e2 ▸ Own.re_bp (j := 1332) (B_ff.mono (by decide)) (B_r1.mono (by decide)) (B_sm.mono (by decide)) (by decide)
  have n_e2 := B_e2.nn
  have f_e2 := B_e2.1
  show Own.Go p e below s n0 _ _ _ (T6.setTop (mkF m 80 _ [.double e2]))
  refine Own.dstore X6 d4_80 (l' := #[.val (.ref a), .val (.int (2 : Int32)), .val (.int (1 : Int32)), .val (.double ad), .second, .val (.double r1), .second, .val (.double s1), .second, .val (.double ff), .second, .val (.double sm), .second, .val (.double e1), .second, .val (.double e2), .second, .unset, .unset, .unset, .unset]) rfl ?_
  refine Own.dload X6 d4_82 rfl ?_
  refine Own.dload X6 d4_84 rfl ?_
  obtain ⟨er, e_er⟩ : ∃ v, FP.dadd e1 e2 = v := ⟨_, rfl⟩
  have B_er := Own.Bp.add e_er (B_e1.mono (by decide : _ ≤ (1336 : Nat))) (B_e2.mono (by decide : _ ≤ (1336 : Nat))) (by decide)
  have n_er := B_er.nn
  have f_er := B_er.1
  refine Own.dadd X6 d4_86 e_er n_er ?_
  refine Own.dstore X6 d4_87 (l' := #[.val (.ref a), .val (.int (2 : Int32)), .val (.int (1 : Int32)), .val (.double ad), .second, .val (.double r1), .second, .val (.double s1), .second, .val (.double ff), .second, .val (.double sm), .second, .val (.double e1), .second, .val (.double e2), .second, .val (.double er), .second, .unset, .unset]) rfl ?_
  refine Own.dload X6 d4_89 rfl ?_
  refine Own.dload X6 d4_91 rfl ?_
  refine Own.dload X6 d4_93 rfl ?_
  refine Own.callSN_ (y := mn_2) X6 d4_95 (Own.wd hw 39 rfl) (Own.wd hw 40 rfl) (Own.wd hw 41 rfl) (Own.wd hw 42 rfl) (by decide) (rm7 l Z a0 hw e1 e2 er h0 n0 Z0  (B_e1.mono (by decide)) (B_e2.mono (by decide)) (B_er.mono (by decide))) (lenOf pd_8 rfl) rfl (argsL := [.double e1, .double e2, .double er]) (rest := []) rfl (W := 0) (Nat.le_of_eq rfl) (by decide) (by decide) (by decide) (by decide) fun T7 h7 v7 X7 q7 => ?_
  obtain ⟨rfl, rfl⟩ := q7
  obtain ⟨xx, e_xx⟩ : ∃ v, (Own.re e1 e2 er) = v := ⟨_, rfl⟩
  rw [e_xx]
  have B_xx : Own.Bp xx 1341 := e_xx ▸ Own.re_bp (j := 1337) (B_e1.mono (by decide)) (B_e2.mono (by decide)) (B_er.mono (by decide)) (by decide)
  have n_xx := B_xx.nn
  have f_xx := B_xx.1
  have X_xx : Own.XX ad s1 r1 = xx := by simp only [Own.XX, Own.ER, Own.E2, Own.E1, Own.S1, Own.F1, e_ff, e_sm, e_e1, e_e2, e_er, e_xx]
  obtain ⟨-, -, -, zx⟩ := Own.ext0 (B_ad.mono (by decide)) (B_s1.mono (by decide)) (B_r1.mono (by decide)) z_lo (hi := r1)
  rw [X_xx] at zx
  show Own.Go p e below s n0 _ _ _ (T7.setTop (mkF m 98 _ [.double xx]))
  refine Own.dconst0 X7 d4_98 ?_
  refine Own.dcmpF X7 (pc' := 130) d4_99 d4_100 (by decide) n_xx Own.nn_0 (fun _ => ?_) (fun q => absurd (show Own.dz xx = Own.dz 0 from by rw [Own.dz_0]; exact zx) q)
  refine Own.dload X7 d4_130 rfl ?_
  refine Own.dload X7 d4_132 rfl ?_
  obtain ⟨vv, e_vv⟩ : ∃ v, FP.dadd sm er = v := ⟨_, rfl⟩
  have B_vv := Own.Bp.add e_vv (B_sm.mono (by decide : _ ≤ (1337 : Nat))) (B_er.mono (by decide : _ ≤ (1337 : Nat))) (by decide)
  have n_vv := B_vv.nn
  have f_vv := B_vv.1
  refine Own.dadd X7 d4_134 e_vv n_vv ?_
  refine Own.dstore X7 d4_135 (l' := #[.val (.ref a), .val (.int (2 : Int32)), .val (.int (1 : Int32)), .val (.double ad), .second, .val (.double r1), .second, .val (.double s1), .second, .val (.double ff), .second, .val (.double sm), .second, .val (.double e1), .second, .val (.double e2), .second, .val (.double er), .second, .val (.double vv), .second]) rfl ?_
  refine Own.aloadN X7 d4_137 rfl rfl ?_
  refine Own.getF_ X7 d4_138 (host := "") (Or.inl (Own.wd hw 12 rfl)) Via.refl f0 fun T8 X8 => ?_
  refine Own.iloadN X8 d4_141 rfl ?_
  refine Own.dload X8 d4_142 rfl ?_
  refine Own.dastore_ X8 (i := 2) d4_144 f3 (by decide) rfl (Nat.le_of_ble_eq_true rfl) w0 fun T9 h9 X9 W9 V9 => ?_
  have F10 := f0.other W9 (Or.inl u0)
  have F11 := f1.other W9 (Or.inl u0)
  have F12 := f2.other W9 (Or.inl u0)
  have F13 := f4.other W9 (Ne.symm u3)
  have F14 := f5.other W9 (Ne.symm u4)
  have F15 := (Keep.refl h0 [ra, rb, rc]).wr W9 (Or.inl (List.mem_of_getElem? (i := 0) rfl))
  have Z16 : n0 ≤ h9.size := by rw [W9.size]; exact Z0
  have V17 : Arv Z h9 ra k_ra .double (4 : Int32) [.double r0, .double r1, .double vv, .double r3] (.double 0) := V9
  refine Own.aloadN X9 d4_145 rfl rfl ?_
  refine Own.getF_ X9 d4_146 (host := "") (Or.inl (Own.wd hw 14 rfl)) Via.refl F11 fun T18 X18 => ?_
  refine Own.iloadN X18 d4_149 rfl ?_
  refine Own.dload X18 d4_150 rfl ?_
  refine Own.dload X18 d4_152 rfl ?_
  refine Own.dload X18 d4_154 rfl ?_
  refine Own.callSN_ (y := mn_2) X18 d4_156 (Own.wd hw 39 rfl) (Own.wd hw 40 rfl) (Own.wd hw 41 rfl) (Own.wd hw 42 rfl) (by decide) (rm7 l Z a0 hw sm er vv h9 n0 Z16  (B_sm.mono (by decide)) (B_er.mono (by decide)) (B_vv.mono (by decide))) (lenOf pd_8 rfl) rfl (argsL := [.double sm, .double er, .double vv]) (rest := [.int (2 : Int32), .ref rb]) rfl (W := 2) (Nat.le_of_eq rfl) (by decide) (by decide) (by decide) (by decide) fun T19 h19 v19 X19 q19 => ?_
  obtain ⟨rfl, rfl⟩ := q19
  obtain ⟨rr, e_rr⟩ : ∃ v, (Own.re sm er vv) = v := ⟨_, rfl⟩
  rw [e_rr]
  have B_rr : Own.Bp rr 1342 := e_rr ▸ Own.re_bp (j := 1338) (B_sm.mono (by decide)) (B_er.mono (by decide)) (B_vv.mono (by decide)) (by decide)
  have n_rr := B_rr.nn
  have f_rr := B_rr.1
  show Own.Go p e below s n0 _ _ _ (T19.setTop (mkF m 159 _ [.double rr, .int (2 : Int32), .ref rb]))
  refine Own.dastore_ X19 (i := 2) d4_159 F13 (by decide) rfl (Nat.le_of_ble_eq_true rfl) w1 fun T20 h20 X20 W20 V20 => ?_
  have F21 := F10.other W20 (Or.inl u1)
  have F22 := F11.other W20 (Or.inl u1)
  have F23 := F12.other W20 (Or.inl u1)
  have F24 := F14.other W20 (Ne.symm u5)
  have F25 := F15.wr W20 (Or.inl (List.mem_of_getElem? (i := 1) rfl))
  have F26 := V17.other W20 u3
  have Z27 : n0 ≤ h20.size := by rw [W20.size]; exact Z16
  have V28 : Arv Z h20 rb k_rb .double (4 : Int32) [.double s0, .double s1, .double rr, .double s3] (.double 0) := V20
  refine Own.aloadN X20 d4_160 rfl rfl ?_
  refine Own.getF_ X20 d4_161 (host := "") (Or.inl (Own.wd hw 18 rfl)) Via.refl F23 fun T29 X29 => ?_
  refine Own.iloadN X29 d4_164 rfl ?_
  refine Own.aconstNull X29 d4_165 ?_
  refine Own.aastore_ X29 (i := 2) d4_166 F24 rfl (by decide) rfl (Nat.le_of_ble_eq_true rfl) w2 rfl (fun _ _ _ => Or.inl rfl) fun T30 h30 X30 W30 V30 => ?_
  have F31 := F21.other W30 (Or.inl u2)
  have F32 := F22.other W30 (Or.inl u2)
  have F33 := F23.other W30 (Or.inl u2)
  have F34 := F25.wr W30 (Or.inl (List.mem_of_getElem? (i := 2) rfl))
  have F35 := F26.other W30 u4
  have F36 := V28.other W30 u5
  have Z37 : n0 ≤ h30.size := by rw [W30.size]; exact Z27
  have V38 : Arv Z h30 rc k_rc (.object "com/example/rainyday/rainyday/ExactSum") (4 : Int32) [.null, .null, .null, .null] (.null) := V30
  have X_vv : Own.VV ad s1 r1 = vv := by simp only [Own.VV, Own.ER, Own.E2, Own.E1, Own.S1, Own.F1, e_ff, e_sm, e_e1, e_e2, e_er, e_vv]
  have X_rr : Own.RR ad s1 r1 = rr := by simp only [Own.RR, X_vv, Own.ER, Own.E2, Own.E1, Own.S1, Own.F1, e_ff, e_sm, e_e1, e_e2, e_er, e_rr]
  subst X_vv X_rr
  exact Own.retV X30 d4_167 ⟨rfl, F34, F35, F36, V38⟩ (by decide) (by decide)
theorem ef_4_c (m : MethodId) (x0 : Addr) (x1 : Int32) (x2 : Int32) (x3 : UInt64) : entryFrame m #[.ref x0, .int x1, .int x2, .double x3] 21 = mkF m 0 #[.val (.ref x0), .val (.int x1), .val (.int x2), .val (.double x3), .second, .unset, .unset, .unset, .unset, .unset, .unset, .unset, .unset, .unset, .unset, .unset, .unset, .unset, .unset, .unset, .unset] [] := by first | (simp [entryFrame, mkF, argsToLocals, Value.category, maxLocals]; done) | rfl
set_option maxRecDepth 65536 in
set_option maxHeartbeats 40000000 in
theorem rm4_c (l : Launch) (Z : State) (a0 : Array Value) (hw : ∀ d ∈ tables_1, d.before a0 Z = true) (a : Addr) (ad : UInt64) (ra : Addr) (rb : Addr) (rc : Addr) (k_ra : ClassId) (k_rb : ClassId) (k_rc : ClassId) (r0 : UInt64) (r1 : UInt64) (r2 : UInt64) (r3 : UInt64) (s0 : UInt64) (s1 : UInt64) (s2 : UInt64) (s3 : UInt64) (h0 : Heap) (n0 : Nat) (Z0 : n0 ≤ h0.size) (f0 : Exa Z h0 a "com/example/rainyday/rainyday/ExactSum$TreeSums") (f1 : Fld Z h0 a "com/example/rainyday/rainyday/ExactSum$TreeSums" "rounded" "[D" (.ref ra)) (f2 : Fld Z h0 a "com/example/rainyday/rainyday/ExactSum$TreeSums" "rest" "[D" (.ref rb)) (f3 : Fld Z h0 a "com/example/rainyday/rainyday/ExactSum$TreeSums" "wider" "[Lcom/example/rainyday/rainyday/ExactSum;" (.ref rc)) (f4 : Arv Z h0 ra k_ra .double (4 : Int32) [.double r0, .double r1, .double r2, .double r3] (.double 0)) (f5 : Arv Z h0 rb k_rb .double (4 : Int32) [.double s0, .double s1, .double s2, .double s3] (.double 0)) (f6 : Arv Z h0 rc k_rc (.object "com/example/rainyday/rainyday/ExactSum") (4 : Int32) [.null, .null, .null, .null] (.null)) (u0 : a ≠ ra) (u1 : a ≠ rb) (u2 : a ≠ rc) (u3 : ra ≠ rb) (u4 : ra ≠ rc) (u5 : rb ≠ rc) (w0 : n0 ≤ ra) (w1 : n0 ≤ rb) (w2 : n0 ≤ rc) (B_ad : Own.Bp ad 1330) (B_s2 : Own.Bp s2 1330) (B_r2 : Own.Bp r2 1330) (Ov : Ovr Z k_rc "com/example/rainyday/rainyday/ExactSum") :
    Own.Con l Z mn_13 [] prog_6_method_3_code 21 none ({ frames := 3, cells := 2, slots := 5, locals := 49 } : Room) #[.ref a, .int (3 : Int32), .int (2 : Int32), .double ad] h0 n0 (fun v h => ∃ (w3 : UInt64) (t3 : UInt64) (W3 : Value), v = none ∧ Keep h0 h [ra, rb, rc] ∧ Arv Z h ra k_ra .double (4 : Int32) [.double r0, .double r1, .double r2, .double w3] (.double 0) ∧ Arv Z h rb k_rb .double (4 : Int32) [.double s0, .double s1, .double s2, .double t3] (.double 0) ∧ Arv Z h rc k_rc (.object "com/example/rainyday/rainyday/ExactSum") (4 : Int32) [.null, .null, .null, W3] (.null) ∧ Own.Bp w3 1450 ∧ Own.Bp t3 1450 ∧ ((Own.dz (Own.XX ad s2 r2) = 0 ∧ w3 = Own.VV ad s2 r2 ∧ t3 = Own.RR ad s2 r2 ∧ W3 = Value.null) ∨ (Own.dz (Own.XX ad s2 r2) ≠ 0 ∧ (∃ o : Addr, W3 = Value.ref o) ∧ (Own.Tiny (Own.E2 ad s2 r2) (Own.S1 ad s2 r2) → Own.dz (Own.E2 ad s2 r2) ≠ 0 → Own.dz w3 = Own.dz (Own.S1 ad s2 r2))))) := by
  refine Own.enter (own := "com/example/rainyday/rainyday/ExactSum$TreeSums") (nm := "extend") (plainFor_of_name pn_com_example_rainyday_rainyday_ExactSum_TreeSums) rfl rfl (fun m => ef_4_c m a (3 : Int32) (2 : Int32) ad) fun p e s m below meth c T X => ?_
  refine Own.aloadN X d4_0 rfl rfl ?_
  refine Own.getF_ X d4_1 (host := "") (Or.inl (Own.wd hw 12 rfl)) Via.refl f1 fun T1 X1 => ?_
  refine Own.iloadN X1 d4_4 rfl ?_
  refine Own.daload_ X1 d4_5 f4 (by decide) rfl ?_
  refine Own.dstore X1 d4_6 (l' := #[.val (.ref a), .val (.int (3 : Int32)), .val (.int (2 : Int32)), .val (.double ad), .second, .val (.double r2), .second, .unset, .unset, .unset, .unset, .unset, .unset, .unset, .unset, .unset, .unset, .unset, .unset, .unset, .unset]) rfl ?_
  refine Own.aloadN X1 d4_8 rfl rfl ?_
  refine Own.getF_ X1 d4_9 (host := "") (Or.inl (Own.wd hw 14 rfl)) Via.refl f2 fun T2 X2 => ?_
  refine Own.iloadN X2 d4_12 rfl ?_
  refine Own.daload_ X2 d4_13 f5 (by decide) rfl ?_
  refine Own.dstore X2 d4_14 (l' := #[.val (.ref a), .val (.int (3 : Int32)), .val (.int (2 : Int32)), .val (.double ad), .second, .val (.double r2), .second, .val (.double s2), .second, .unset, .unset, .unset, .unset, .unset, .unset, .unset, .unset, .unset, .unset, .unset, .unset]) rfl ?_
  refine Own.dloadN X2 d4_16 rfl ?_
  refine Own.dload X2 d4_17 rfl ?_
  obtain ⟨ff, e_ff⟩ : ∃ v, FP.dadd ad s2 = v := ⟨_, rfl⟩
  have B_ff := Own.Bp.add e_ff (B_ad.mono (by decide : _ ≤ (1330 : Nat))) (B_s2.mono (by decide : _ ≤ (1330 : Nat))) (by decide)
  have n_ff := B_ff.nn
  have f_ff := B_ff.1
  refine Own.dadd X2 d4_19 e_ff n_ff ?_
  refine Own.dstore X2 d4_20 (l' := #[.val (.ref a), .val (.int (3 : Int32)), .val (.int (2 : Int32)), .val (.double ad), .second, .val (.double r2), .second, .val (.double s2), .second, .val (.double ff), .second, .unset, .unset, .unset, .unset, .unset, .unset, .unset, .unset, .unset, .unset]) rfl ?_
  refine Own.dload X2 d4_22 rfl ?_
  refine Own.dload X2 d4_24 rfl ?_
  obtain ⟨sm, e_sm⟩ : ∃ v, FP.dadd ff r2 = v := ⟨_, rfl⟩
  have B_sm := Own.Bp.add e_sm (B_ff.mono (by decide : _ ≤ (1331 : Nat))) (B_r2.mono (by decide : _ ≤ (1331 : Nat))) (by decide)
  have n_sm := B_sm.nn
  have f_sm := B_sm.1
  refine Own.dadd X2 d4_26 e_sm n_sm ?_
  refine Own.dstore X2 d4_27 (l' := #[.val (.ref a), .val (.int (3 : Int32)), .val (.int (2 : Int32)), .val (.double ad), .second, .val (.double r2), .second, .val (.double s2), .second, .val (.double ff), .second, .val (.double sm), .second, .unset, .unset, .unset, .unset, .unset, .unset, .unset, .unset]) rfl ?_
  refine Own.aloadN X2 d4_29 rfl rfl ?_
  refine Own.getF_ X2 d4_30 (host := "") (Or.inl (Own.wd hw 18 rfl)) Via.refl f3 fun T3 X3 => ?_
  refine Own.iloadN X3 d4_33 rfl ?_
  refine Own.aaload_ X3 d4_34 f6 rfl (by decide) rfl ?_
  refine Own.ifnonnullN X3 d4_35 ?_
  refine Own.dload X3 d4_38 rfl ?_
  refine Own.callS_ (y := mn_1) X3 d4_40 (Own.wd hw 30 rfl) (Own.wd hw 31 rfl) (Own.wd hw 32 rfl) (Own.wd hw 33 rfl) (by decide) (rm5 l Z a0 hw sm h0 n0 Z0  f_sm) (lenOf pd_12 rfl) rfl (argsL := [.double sm]) (rest := []) rfl (W := 0) (Nat.le_of_eq rfl) (by decide) (by decide) (by decide) (by decide) fun T4 h4 v4 X4 q4 => ?_
  obtain ⟨rfl, rfl⟩ := q4
  show Own.Go p e below s n0 _ _ _ (T4.setTop (mkF m 43 _ [.int (1 : Int32)]))
  refine Own.iff_ X4 (pc' := 61) d4_43 (by decide) (fun _ => ?_) (fun q => absurd (show ¬ ((1 : Int) = (0 : Int)) from by decide) q)
  refine Own.dloadN X4 d4_61 rfl ?_
  refine Own.dload X4 d4_62 rfl ?_
  refine Own.dload X4 d4_64 rfl ?_
  refine Own.callSN_ (y := mn_2) X4 d4_66 (Own.wd hw 39 rfl) (Own.wd hw 40 rfl) (Own.wd hw 41 rfl) (Own.wd hw 42 rfl) (by decide) (rm7 l Z a0 hw ad s2 ff h0 n0 Z0  (B_ad.mono (by decide)) (B_s2.mono (by decide)) (B_ff.mono (by decide))) (lenOf pd_8 rfl) rfl (argsL := [.double ad, .double s2, .double ff]) (rest := []) rfl (W := 0) (Nat.le_of_eq rfl) (by decide) (by decide) (by decide) (by decide) fun T5 h5 v5 X5 q5 => ?_
  obtain ⟨rfl, rfl⟩ := q5
  obtain ⟨e1, e_e1⟩ : ∃ v, (Own.re ad s2 ff) = v := ⟨_, rfl⟩
  rw [e_e1]
  have B_e1 : Own.Bp e1 1336 := e_e1 ▸ Own.re_bp (j := 1332) (B_ad.mono (by decide)) (B_s2.mono (by decide)) (B_ff.mono (by decide)) (by decide)
  have n_e1 := B_e1.nn
  have f_e1 := B_e1.1
  show Own.Go p e below s n0 _ _ _ (T5.setTop (mkF m 69 _ [.double e1]))
  refine Own.dstore X5 d4_69 (l' := #[.val (.ref a), .val (.int (3 : Int32)), .val (.int (2 : Int32)), .val (.double ad), .second, .val (.double r2), .second, .val (.double s2), .second, .val (.double ff), .second, .val (.double sm), .second, .val (.double e1), .second, .unset, .unset, .unset, .unset, .unset, .unset]) rfl ?_
  refine Own.dload X5 d4_71 rfl ?_
  refine Own.dload X5 d4_73 rfl ?_
  refine Own.dload X5 d4_75 rfl ?_
  refine Own.callSN_ (y := mn_2) X5 d4_77 (Own.wd hw 39 rfl) (Own.wd hw 40 rfl) (Own.wd hw 41 rfl) (Own.wd hw 42 rfl) (by decide) (rm7 l Z a0 hw ff r2 sm h0 n0 Z0  (B_ff.mono (by decide)) (B_r2.mono (by decide)) (B_sm.mono (by decide))) (lenOf pd_8 rfl) rfl (argsL := [.double ff, .double r2, .double sm]) (rest := []) rfl (W := 0) (Nat.le_of_eq rfl) (by decide) (by decide) (by decide) (by decide) fun T6 h6 v6 X6 q6 => ?_
  obtain ⟨rfl, rfl⟩ := q6
  obtain ⟨e2, e_e2⟩ : ∃ v, (Own.re ff r2 sm) = v := ⟨_, rfl⟩
  rw [e_e2]
  have B_e2 : Own.Bp e2 1336 := e_e2 ▸ Own.re_bp (j := 1332) (B_ff.mono (by decide)) (B_r2.mono (by decide)) (B_sm.mono (by decide)) (by decide)
  have n_e2 := B_e2.nn
  have f_e2 := B_e2.1
  show Own.Go p e below s n0 _ _ _ (T6.setTop (mkF m 80 _ [.double e2]))
  refine Own.dstore X6 d4_80 (l' := #[.val (.ref a), .val (.int (3 : Int32)), .val (.int (2 : Int32)), .val (.double ad), .second, .val (.double r2), .second, .val (.double s2), .second, .val (.double ff), .second, .val (.double sm), .second, .val (.double e1), .second, .val (.double e2), .second, .unset, .unset, .unset, .unset]) rfl ?_
  refine Own.dload X6 d4_82 rfl ?_
  refine Own.dload X6 d4_84 rfl ?_
  obtain ⟨er, e_er⟩ : ∃ v, FP.dadd e1 e2 = v := ⟨_, rfl⟩
  have B_er := Own.Bp.add e_er (B_e1.mono (by decide : _ ≤ (1336 : Nat))) (B_e2.mono (by decide : _ ≤ (1336 : Nat))) (by decide)
  have n_er := B_er.nn
  have f_er := B_er.1
  refine Own.dadd X6 d4_86 e_er n_er ?_
  refine Own.dstore X6 d4_87 (l' := #[.val (.ref a), .val (.int (3 : Int32)), .val (.int (2 : Int32)), .val (.double ad), .second, .val (.double r2), .second, .val (.double s2), .second, .val (.double ff), .second, .val (.double sm), .second, .val (.double e1), .second, .val (.double e2), .second, .val (.double er), .second, .unset, .unset]) rfl ?_
  refine Own.dload X6 d4_89 rfl ?_
  refine Own.dload X6 d4_91 rfl ?_
  refine Own.dload X6 d4_93 rfl ?_
  refine Own.callSN_ (y := mn_2) X6 d4_95 (Own.wd hw 39 rfl) (Own.wd hw 40 rfl) (Own.wd hw 41 rfl) (Own.wd hw 42 rfl) (by decide) (rm7 l Z a0 hw e1 e2 er h0 n0 Z0  (B_e1.mono (by decide)) (B_e2.mono (by decide)) (B_er.mono (by decide))) (lenOf pd_8 rfl) rfl (argsL := [.double e1, .double e2, .double er]) (rest := []) rfl (W := 0) (Nat.le_of_eq rfl) (by decide) (by decide) (by decide) (by decide) fun T7 h7 v7 X7 q7 => ?_
  obtain ⟨rfl, rfl⟩ := q7
  obtain ⟨xx, e_xx⟩ : ∃ v, (Own.re e1 e2 er) = v := ⟨_, rfl⟩
  rw [e_xx]
  have B_xx : Own.Bp xx 1341 := e_xx ▸ Own.re_bp (j := 1337) (B_e1.mono (by decide)) (B_e2.mono (by decide)) (B_er.mono (by decide)) (by decide)
  have n_xx := B_xx.nn
  have f_xx := B_xx.1
  have X_xx : Own.XX ad s2 r2 = xx := by simp only [Own.XX, Own.ER, Own.E2, Own.E1, Own.S1, Own.F1, e_ff, e_sm, e_e1, e_e2, e_er, e_xx]
  show Own.Go p e below s n0 _ _ _ (T7.setTop (mkF m 98 _ [.double xx]))
  refine Own.dconst0 X7 d4_98 ?_
  refine Own.dcmpF X7 (pc' := 130) d4_99 d4_100 (by decide) n_xx Own.nn_0 (fun (h99 : Own.dz xx = Own.dz 0) => ?_) (fun (h99 : ¬ (Own.dz xx = Own.dz 0)) => ?_)
  · refine Own.dload X7 d4_130 rfl ?_
    refine Own.dload X7 d4_132 rfl ?_
    obtain ⟨vv, e_vv⟩ : ∃ v, FP.dadd sm er = v := ⟨_, rfl⟩
    have B_vv := Own.Bp.add e_vv (B_sm.mono (by decide : _ ≤ (1337 : Nat))) (B_er.mono (by decide : _ ≤ (1337 : Nat))) (by decide)
    have n_vv := B_vv.nn
    have f_vv := B_vv.1
    refine Own.dadd X7 d4_134 e_vv n_vv ?_
    refine Own.dstore X7 d4_135 (l' := #[.val (.ref a), .val (.int (3 : Int32)), .val (.int (2 : Int32)), .val (.double ad), .second, .val (.double r2), .second, .val (.double s2), .second, .val (.double ff), .second, .val (.double sm), .second, .val (.double e1), .second, .val (.double e2), .second, .val (.double er), .second, .val (.double vv), .second]) rfl ?_
    refine Own.aloadN X7 d4_137 rfl rfl ?_
    refine Own.getF_ X7 d4_138 (host := "") (Or.inl (Own.wd hw 12 rfl)) Via.refl f1 fun T8 X8 => ?_
    refine Own.iloadN X8 d4_141 rfl ?_
    refine Own.dload X8 d4_142 rfl ?_
    refine Own.dastore_ X8 (i := 3) d4_144 f4 (by decide) rfl (Nat.le_of_ble_eq_true rfl) w0 fun T9 h9 X9 W9 V9 => ?_
    have F10 := f0.wr W9
    have F11 := f1.other W9 (Or.inl u0)
    have F12 := f2.other W9 (Or.inl u0)
    have F13 := f3.other W9 (Or.inl u0)
    have F14 := f5.other W9 (Ne.symm u3)
    have F15 := f6.other W9 (Ne.symm u4)
    have F16 := (Keep.refl h0 [ra, rb, rc]).wr W9 (Or.inl (List.mem_of_getElem? (i := 0) rfl))
    have Z17 : n0 ≤ h9.size := by rw [W9.size]; exact Z0
    have V18 : Arv Z h9 ra k_ra .double (4 : Int32) [.double r0, .double r1, .double r2, .double vv] (.double 0) := V9
    refine Own.aloadN X9 d4_145 rfl rfl ?_
    refine Own.getF_ X9 d4_146 (host := "") (Or.inl (Own.wd hw 14 rfl)) Via.refl F12 fun T19 X19 => ?_
    refine Own.iloadN X19 d4_149 rfl ?_
    refine Own.dload X19 d4_150 rfl ?_
    refine Own.dload X19 d4_152 rfl ?_
    refine Own.dload X19 d4_154 rfl ?_
    refine Own.callSN_ (y := mn_2) X19 d4_156 (Own.wd hw 39 rfl) (Own.wd hw 40 rfl) (Own.wd hw 41 rfl) (Own.wd hw 42 rfl) (by decide) (rm7 l Z a0 hw sm er vv h9 n0 Z17  (B_sm.mono (by decide)) (B_er.mono (by decide)) (B_vv.mono (by decide))) (lenOf pd_8 rfl) rfl (argsL := [.double sm, .double er, .double vv]) (rest := [.int (3 : Int32), .ref rb]) rfl (W := 2) (Nat.le_of_eq rfl) (by decide) (by decide) (by decide) (by decide) fun T20 h20 v20 X20 q20 => ?_
    obtain ⟨rfl, rfl⟩ := q20
    obtain ⟨rr, e_rr⟩ : ∃ v, (Own.re sm er vv) = v := ⟨_, rfl⟩
    rw [e_rr]
    have B_rr : Own.Bp rr 1342 := e_rr ▸ Own.re_bp (j := 1338) (B_sm.mono (by decide)) (B_er.mono (by decide)) (B_vv.mono (by decide)) (by decide)
    have n_rr := B_rr.nn
    have f_rr := B_rr.1
    show Own.Go p e below s n0 _ _ _ (T20.setTop (mkF m 159 _ [.double rr, .int (3 : Int32), .ref rb]))
    refine Own.dastore_ X20 (i := 3) d4_159 F14 (by decide) rfl (Nat.le_of_ble_eq_true rfl) w1 fun T21 h21 X21 W21 V21 => ?_
    have F22 := F10.wr W21
    have F23 := F11.other W21 (Or.inl u1)
    have F24 := F12.other W21 (Or.inl u1)
    have F25 := F13.other W21 (Or.inl u1)
    have F26 := F15.other W21 (Ne.symm u5)
    have F27 := F16.wr W21 (Or.inl (List.mem_of_getElem? (i := 1) rfl))
    have F28 := V18.other W21 u3
    have Z29 : n0 ≤ h21.size := by rw [W21.size]; exact Z17
    have V30 : Arv Z h21 rb k_rb .double (4 : Int32) [.double s0, .double s1, .double s2, .double rr] (.double 0) := V21
    refine Own.aloadN X21 d4_160 rfl rfl ?_
    refine Own.getF_ X21 d4_161 (host := "") (Or.inl (Own.wd hw 18 rfl)) Via.refl F25 fun T31 X31 => ?_
    refine Own.iloadN X31 d4_164 rfl ?_
    refine Own.aconstNull X31 d4_165 ?_
    refine Own.aastore_ X31 (i := 3) d4_166 F26 rfl (by decide) rfl (Nat.le_of_ble_eq_true rfl) w2 rfl (fun _ _ _ => Or.inl rfl) fun T32 h32 X32 W32 V32 => ?_
    have F33 := F22.wr W32
    have F34 := F23.other W32 (Or.inl u2)
    have F35 := F24.other W32 (Or.inl u2)
    have F36 := F25.other W32 (Or.inl u2)
    have F37 := F27.wr W32 (Or.inl (List.mem_of_getElem? (i := 2) rfl))
    have F38 := F28.other W32 u4
    have F39 := V30.other W32 u5
    have Z40 : n0 ≤ h32.size := by rw [W32.size]; exact Z29
    have V41 : Arv Z h32 rc k_rc (.object "com/example/rainyday/rainyday/ExactSum") (4 : Int32) [.null, .null, .null, .null] (.null) := V32
    have X_vv : Own.VV ad s2 r2 = vv := by simp only [Own.VV, Own.ER, Own.E2, Own.E1, Own.S1, Own.F1, e_ff, e_sm, e_e1, e_e2, e_er, e_vv]
    have X_rr : Own.RR ad s2 r2 = rr := by simp only [Own.RR, X_vv, Own.ER, Own.E2, Own.E1, Own.S1, Own.F1, e_ff, e_sm, e_e1, e_e2, e_er, e_rr]
    exact Own.retV X32 d4_167 ⟨vv, rr, (.null), rfl, F37, F38, F39, V41, ⟨B_vv.mono (by decide), B_rr.mono (by decide), Or.inl ⟨by rw [X_xx, h99, Own.dz_0], X_vv.symm, X_rr.symm, rfl⟩⟩⟩ (by decide) (by decide)
  · refine Own.aloadN X7 d4_103 rfl rfl ?_
    refine Own.iloadN X7 d4_104 rfl ?_
    refine Own.iconst X7 (v := 3) d4_105 rfl ?_
    refine Own.newP_ X7 (cap := 3) (ty := .double) (dv := .double 0) (ad := "[D") d4_106 rfl rfl (by decide) (Own.wd hw 11 rfl) (by decide) (by decide) (by decide) (by decide) (by decide) fun T42 h42 ps k_ps g_ps X42 E42 V42 A42 => ?_
    have ne43 : a ≠ ps := Nat.ne_of_lt (Nat.lt_of_lt_of_le f0.lt (Nat.le_of_eq g_ps.symm))
    have ne44 : ra ≠ ps := Nat.ne_of_lt (Nat.lt_of_lt_of_le f4.lt (Nat.le_of_eq g_ps.symm))
    have ne45 : rb ≠ ps := Nat.ne_of_lt (Nat.lt_of_lt_of_le f5.lt (Nat.le_of_eq g_ps.symm))
    have ne46 : rc ≠ ps := Nat.ne_of_lt (Nat.lt_of_lt_of_le f6.lt (Nat.le_of_eq g_ps.symm))
    have fr47 : n0 ≤ ps := Nat.le_trans Z0 (Nat.le_of_eq g_ps.symm)
    have bn48 : h0.size ≤ ps := Nat.le_trans (Keep.refl h0 [ra, rb, rc]).1 (Nat.le_of_eq g_ps.symm)
    have F49 := f0.ext E42
    have F50 := f1.ext E42
    have F51 := f2.ext E42
    have F52 := f3.ext E42
    have F53 := f4.ext E42
    have F54 := f5.ext E42
    have F55 := f6.ext E42
    have F56 := (Keep.refl h0 [ra, rb, rc]).ext E42
    have Z57 : n0 ≤ h42.size := Nat.le_trans Z0 E42.1
    have V58 : Arv Z h42 ps k_ps .double (3 : Int32) [.double 0, .double 0, .double 0] (.double 0) := V42.pad (pad_rep [] (.double 0) 3)
    refine Own.dup X42 d4_108 rfl ?_
    refine Own.iconst X42 (v := 0) d4_109 rfl ?_
    refine Own.dload X42 d4_110 rfl ?_
    refine Own.dastore_ X42 (i := 0) d4_112 V58 (by decide) rfl (Nat.le_of_ble_eq_true rfl) fr47 fun T59 h59 X59 W59 V59 => ?_
    have F60 := F49.wr W59
    have F61 := F50.other W59 (Or.inl ne43)
    have F62 := F51.other W59 (Or.inl ne43)
    have F63 := F52.other W59 (Or.inl ne43)
    have F64 := F53.other W59 ne44
    have F65 := F54.other W59 ne45
    have F66 := F55.other W59 ne46
    have F67 := F56.wr W59 (Or.inr bn48)
    have F68 := A42.wr W59
    have Z69 : n0 ≤ h59.size := by rw [W59.size]; exact Z57
    have V70 : Arv Z h59 ps k_ps .double (3 : Int32) [.double e1, .double 0, .double 0] (.double 0) := V59
    refine Own.dup X59 d4_113 rfl ?_
    refine Own.iconst X59 (v := 1) d4_114 rfl ?_
    refine Own.dload X59 d4_115 rfl ?_
    refine Own.dastore_ X59 (i := 1) d4_117 V70 (by decide) rfl (Nat.le_of_ble_eq_true rfl) fr47 fun T71 h71 X71 W71 V71 => ?_
    have F72 := F60.wr W71
    have F73 := F61.other W71 (Or.inl ne43)
    have F74 := F62.other W71 (Or.inl ne43)
    have F75 := F63.other W71 (Or.inl ne43)
    have F76 := F64.other W71 ne44
    have F77 := F65.other W71 ne45
    have F78 := F66.other W71 ne46
    have F79 := F67.wr W71 (Or.inr bn48)
    have F80 := F68.wr W71
    have Z81 : n0 ≤ h71.size := by rw [W71.size]; exact Z69
    have V82 : Arv Z h71 ps k_ps .double (3 : Int32) [.double e1, .double e2, .double 0] (.double 0) := V71
    refine Own.dup X71 d4_118 rfl ?_
    refine Own.iconst X71 (v := 2) d4_119 rfl ?_
    refine Own.dload X71 d4_120 rfl ?_
    refine Own.dastore_ X71 (i := 2) d4_122 V82 (by decide) rfl (Nat.le_of_ble_eq_true rfl) fr47 fun T83 h83 X83 W83 V83 => ?_
    have F84 := F72.wr W83
    have F85 := F73.other W83 (Or.inl ne43)
    have F86 := F74.other W83 (Or.inl ne43)
    have F87 := F75.other W83 (Or.inl ne43)
    have F88 := F76.other W83 ne44
    have F89 := F77.other W83 ne45
    have F90 := F78.other W83 ne46
    have F91 := F79.wr W83 (Or.inr bn48)
    have F92 := F80.wr W83
    have Z93 : n0 ≤ h83.size := by rw [W83.size]; exact Z81
    have V94 : Arv Z h83 ps k_ps .double (3 : Int32) [.double e1, .double e2, .double sm] (.double 0) := V83
    refine Own.callSN_ (y := mn_10) X83 d4_123 (Own.wd hw 53 rfl) (Own.wd hw 54 rfl) (Own.wd hw 41 rfl) (Own.wd hw 55 rfl) (by decide) (rm10 l Z a0 hw ps k_ps e1 e2 sm h83 n0 Z93 V94 (B_e1.mono (by decide)) (B_e2.mono (by decide)) (B_sm.mono (by decide))) (lenOf pd_14 rfl) rfl (argsL := [.ref ps]) (rest := [.int (3 : Int32), .ref a]) rfl (W := 2) (Nat.le_of_eq rfl) (by decide) (by decide) (by decide) (by decide) fun T95 h95 v95 X95 q95 => ?_
    obtain ⟨ob_123_95, w_123_95, rfl, K95, B95_0, G95_0, G95_1, G95_2, Y95⟩ := q95
    have F96 := F84.keep K95
    have F97 := F85.keep K95 nin0
    have F98 := F86.keep K95 nin0
    have F99 := F87.keep K95 nin0
    have F100 := F88.keep K95 nin0
    have F101 := F89.keep K95 nin0
    have F102 := F90.keep K95 nin0
    have F103 := F91.trans K95 all0
    have F104 := F92.keep K95
    have F105 := V94.keep K95 nin0
    have Z106 : n0 ≤ h95.size := Nat.le_trans Z93 K95.1
    have ne107 : a ≠ ob_123_95 := Nat.ne_of_lt (Nat.lt_of_lt_of_le F84.lt B95_0)
    have ne108 : ra ≠ ob_123_95 := Nat.ne_of_lt (Nat.lt_of_lt_of_le F88.lt B95_0)
    have ne109 : rb ≠ ob_123_95 := Nat.ne_of_lt (Nat.lt_of_lt_of_le F89.lt B95_0)
    have ne110 : rc ≠ ob_123_95 := Nat.ne_of_lt (Nat.lt_of_lt_of_le F90.lt B95_0)
    have ne111 : ps ≠ ob_123_95 := Nat.ne_of_lt (Nat.lt_of_lt_of_le F92.lt B95_0)
    have fr112 : n0 ≤ ob_123_95 := Nat.le_trans Z93 B95_0
    have bn113 : h0.size ≤ ob_123_95 := Nat.le_trans F91.1 B95_0
    show Own.Go p e below s n0 _ _ _ (T95.setTop (mkF m 126 _ [.ref ob_123_95, .int (3 : Int32), .ref a]))
    skip
    refine Own.callP_ (y := mn_11) (D := "com/example/rainyday/rainyday/ExactSum$TreeSums") (z' := mn_5) (z := mn_5) (a := a) X95 d4_126 (Own.wd hw 71 rfl) (Own.wd hw 72 rfl) (Own.wd hw 23 rfl) rfl (Own.wd hw 73 rfl) (Own.wd hw 4 rfl) (Own.wd hw 74 rfl) (by decide) F96 (rm13 l Z a0 hw a ob_123_95 ra rb rc k_ra k_rb k_rc r0 r1 r2 r3 s0 s1 s2 s3 w_123_95 ps h95 n0 Z106 F97 F98 F99 F100 F101 F102 G95_0 G95_1 G95_2 u0 u1 u2 u3 u4 u5 (Ne.symm ne108) (Ne.symm ne109) (Ne.symm ne110) w0 w1 w2 Ov) (lenOf pd_15 rfl) rfl (argsL := [.int (3 : Int32), .ref ob_123_95]) (rest := []) rfl (W := 0) (Nat.le_of_eq rfl) (by decide) (by decide) (by decide) (by decide) fun T114 h114 v114 X114 q114 => ?_
    obtain ⟨rfl, K114, G114_0, G114_1, G114_2⟩ := q114
    have F115 := F96.keep K114
    have F116 := F97.keep K114 (ninS u0 (ninS u1 (ninS u2 nin0)))
    have F117 := F98.keep K114 (ninS u0 (ninS u1 (ninS u2 nin0)))
    have F118 := F99.keep K114 (ninS u0 (ninS u1 (ninS u2 nin0)))
    have F119 := F103.trans K114 (allS (Or.inl (List.mem_of_getElem? (i := 0) rfl)) (allS (Or.inl (List.mem_of_getElem? (i := 1) rfl)) (allS (Or.inl (List.mem_of_getElem? (i := 2) rfl)) all0)))
    have F120 := F104.keep K114
    have F121 := F105.keep K114 (ninS (Ne.symm ne44) (ninS (Ne.symm ne45) (ninS (Ne.symm ne46) nin0)))
    have F122 := G95_0.keep K114
    have F123 := G95_1.keep K114 (ninS (Ne.symm ne108) (ninS (Ne.symm ne109) (ninS (Ne.symm ne110) nin0)))
    have F124 := G95_2.keep K114 (ninS (Ne.symm ne108) (ninS (Ne.symm ne109) (ninS (Ne.symm ne110) nin0)))
    have Z125 : n0 ≤ h114.size := Nat.le_trans Z106 K114.1
    show Own.Go p e below s n0 _ _ _ (T114.setTop (mkF m 129 _ []))
    have X_e2 : Own.E2 ad s2 r2 = e2 := by simp only [Own.E2, Own.S1, Own.F1, e_ff, e_sm, e_e2]
    have X_sm : Own.S1 ad s2 r2 = sm := by simp only [Own.S1, Own.F1, e_ff, e_sm]
    exact Own.retV X114 d4_129 ⟨w_123_95, 0, (.ref ob_123_95), rfl, F119, G114_0, G114_1, G114_2, ⟨Y95.1.mono (by decide), B_0.mono (by decide), Or.inr ⟨by rw [X_xx]; intro q; exact h99 (q.trans Own.dz_0.symm), ⟨_, rfl⟩, by rw [X_e2, X_sm]; exact Y95.2⟩⟩⟩ (by decide) (by decide)
theorem ef_0 (m : MethodId) (x0 : Int32) (x1 : Int32) (x2 : Int32) (x3 : Int32) : entryFrame m #[.int x0, .int x1, .int x2, .int x3] maxLocals = mkF m 0 #[.val (.int x0), .val (.int x1), .val (.int x2), .val (.int x3), .unset, .unset, .unset, .unset, .unset, .unset, .unset, .unset, .unset, .unset, .unset, .unset, .unset, .unset, .unset, .unset, .unset, .unset, .unset, .unset, .unset, .unset, .unset, .unset, .unset, .unset, .unset] [] := by first | (simp [entryFrame, mkF, argsToLocals, Value.category, maxLocals]; done) | rfl
set_option maxRecDepth 65536 in
set_option maxHeartbeats 40000000 in
theorem rm0 (l : Launch) (Z : State) (a0 : Array Value) (hw : ∀ d ∈ tables_1, d.before a0 Z = true) (i0 i1 i2 i3 : Int32) (h0 : Heap) (n0 : Nat) (Z0 : n0 ≤ h0.size)  :
    Own.Con l Z x tables_1 code maxLocals ret room_1 #[.int i0, .int i1, .int i2, .int i3] h0 n0 (fun v _ => v = some (.int 1)) := by
  refine Own.enter (own := "com/example/rainyday/rainyday/TreeSumsIsExactPinLaw") (nm := "law") (plainFor_of_name pn_com_example_rainyday_rainyday_TreeSumsIsExactPinLaw) rfl rfl (fun m => ef_0 m i0 i1 i2 i3) fun p e s m below meth c T X => ?_
  refine Own.iloadN X at_0 rfl ?_
  obtain ⟨d1, e_d1⟩ : ∃ v, FP.i2d i0 = v := ⟨_, rfl⟩
  have B_d1 := Own.Bp.i2d e_d1
  have n_d1 := B_d1.nn
  have f_d1 := B_d1.1
  have z_d1 := (Own.i2d_v e_d1).2
  refine Own.i2d X at_1 e_d1 ?_
  refine Own.ldc2D X at_2 (Own.wd hw 0 rfl) ?_
  obtain ⟨d5, e_d5⟩ : ∃ v, FP.dmul d1 5147614374084476928 = v := ⟨_, rfl⟩
  obtain ⟨B_d5, z0_d5, y_d5⟩ := own_mag f_5147614374084476928 z_5147614374084476928 e_d1 e_d5 (by decide)
  have n_d5 := B_d5.nn
  have f_d5 := B_d5.1
  refine Own.dmul X at_5 e_d5 n_d5 ?_
  refine Own.dstore X at_6 (l' := #[.val (.int i0), .val (.int i1), .val (.int i2), .val (.int i3), .val (.double d5), .second, .unset, .unset, .unset, .unset, .unset, .unset, .unset, .unset, .unset, .unset, .unset, .unset, .unset, .unset, .unset, .unset, .unset, .unset, .unset, .unset, .unset, .unset, .unset, .unset, .unset]) rfl ?_
  refine Own.iloadN X at_8 rfl ?_
  obtain ⟨d9, e_d9⟩ : ∃ v, FP.i2d i1 = v := ⟨_, rfl⟩
  have B_d9 := Own.Bp.i2d e_d9
  have n_d9 := B_d9.nn
  have f_d9 := B_d9.1
  have z_d9 := (Own.i2d_v e_d9).2
  refine Own.i2d X at_9 e_d9 ?_
  refine Own.dstore X at_10 (l' := #[.val (.int i0), .val (.int i1), .val (.int i2), .val (.int i3), .val (.double d5), .second, .val (.double d9), .second, .unset, .unset, .unset, .unset, .unset, .unset, .unset, .unset, .unset, .unset, .unset, .unset, .unset, .unset, .unset, .unset, .unset, .unset, .unset, .unset, .unset, .unset, .unset]) rfl ?_
  refine Own.iloadN X at_12 rfl ?_
  obtain ⟨d13, e_d13⟩ : ∃ v, FP.i2d i2 = v := ⟨_, rfl⟩
  have B_d13 := Own.Bp.i2d e_d13
  have n_d13 := B_d13.nn
  have f_d13 := B_d13.1
  have z_d13 := (Own.i2d_v e_d13).2
  refine Own.i2d X at_13 e_d13 ?_
  refine Own.ldc2D X at_14 (Own.wd hw 1 rfl) ?_
  obtain ⟨d17, e_d17⟩ : ∃ v, FP.dmul d13 4066750463515557888 = v := ⟨_, rfl⟩
  obtain ⟨B_d17, z0_d17, y_d17⟩ := own_mag f_4066750463515557888 z_4066750463515557888 e_d13 e_d17 (by decide)
  have n_d17 := B_d17.nn
  have f_d17 := B_d17.1
  refine Own.dmul X at_17 e_d17 n_d17 ?_
  refine Own.dstore X at_18 (l' := #[.val (.int i0), .val (.int i1), .val (.int i2), .val (.int i3), .val (.double d5), .second, .val (.double d9), .second, .val (.double d17), .second, .unset, .unset, .unset, .unset, .unset, .unset, .unset, .unset, .unset, .unset, .unset, .unset, .unset, .unset, .unset, .unset, .unset, .unset, .unset, .unset, .unset]) rfl ?_
  refine Own.iloadN X at_20 rfl ?_
  refine Own.iconst X (v := 1) at_21 rfl ?_
  refine Own.iand X at_22 ?_
  refine Own.iff_ X (pc' := 30) at_23 (by decide) (fun (h23 : (i3 &&& (1 : Int32)).toInt = (0 : Int)) => ?_) (fun (h23 : ¬ ((i3 &&& (1 : Int32)).toInt = (0 : Int))) => ?_)
  · refine Own.iconst X (v := 0) at_30 rfl ?_
    refine Own.istore X at_31 (l' := #[.val (.int i0), .val (.int i1), .val (.int i2), .val (.int i3), .val (.double d5), .second, .val (.double d9), .second, .val (.double d17), .second, .val (.int (0 : Int32)), .unset, .unset, .unset, .unset, .unset, .unset, .unset, .unset, .unset, .unset, .unset, .unset, .unset, .unset, .unset, .unset, .unset, .unset, .unset, .unset]) rfl ?_
    refine Own.iload X at_33 rfl ?_
    refine Own.iff_ X (pc' := 43) at_35 (by decide) (fun _ => ?_) (fun q => absurd (show (0 : Int) = (0 : Int) from by decide) q)
    refine Own.dload X at_43 rfl ?_
    refine Own.dstore X at_45 (l' := #[.val (.int i0), .val (.int i1), .val (.int i2), .val (.int i3), .val (.double d5), .second, .val (.double d9), .second, .val (.double d17), .second, .val (.int (0 : Int32)), .val (.double d5), .second, .unset, .unset, .unset, .unset, .unset, .unset, .unset, .unset, .unset, .unset, .unset, .unset, .unset, .unset, .unset, .unset, .unset, .unset]) rfl ?_
    refine Own.iload X at_47 rfl ?_
    refine Own.iff_ X (pc' := 57) at_49 (by decide) (fun _ => ?_) (fun q => absurd (show (0 : Int) = (0 : Int) from by decide) q)
    refine Own.dload X at_57 rfl ?_
    refine Own.dstore X at_59 (l' := #[.val (.int i0), .val (.int i1), .val (.int i2), .val (.int i3), .val (.double d5), .second, .val (.double d9), .second, .val (.double d17), .second, .val (.int (0 : Int32)), .val (.double d5), .second, .val (.double d17), .second, .unset, .unset, .unset, .unset, .unset, .unset, .unset, .unset, .unset, .unset, .unset, .unset, .unset, .unset, .unset, .unset]) rfl ?_
    have KK : own_K i0 i1 i2 d5 d9 d17 := ⟨⟨B_d5, z0_d5, y_d5⟩, ⟨B_d9, (own_mid e_d9).1, (own_mid e_d9).2⟩, ⟨B_d17, z0_d17, y_d17⟩⟩
    refine Own.newO_ X at_61 (Own.wd hw 2 rfl) (Own.wd hw 3 rfl) (Own.wd hw 4 rfl) (by decide) (by decide) fun T1 h1 ts g_ts X1 E1 A1 D1 => ?_
    have fr2 : n0 ≤ ts := Nat.le_trans Z0 (Nat.le_of_eq g_ts.symm)
    have Z3 : n0 ≤ h1.size := Nat.le_trans Z0 E1.1
    have F4 : Fld Z h1 ts "com/example/rainyday/rainyday/ExactSum$TreeSums" "rounded" "[D" (.null) := D1 (Or.inr (Own.wd hw 13 rfl)) (ty := (.array .double)) (by decide)
    have F5 : Fld Z h1 ts "com/example/rainyday/rainyday/ExactSum$TreeSums" "rest" "[D" (.null) := D1 (Or.inr (Own.wd hw 15 rfl)) (ty := (.array .double)) (by decide)
    have F6 : Fld Z h1 ts "com/example/rainyday/rainyday/ExactSum$TreeSums" "wider" "[Lcom/example/rainyday/rainyday/ExactSum;" (.null) := D1 (Or.inr (Own.wd hw 19 rfl)) (ty := (.array (.object "com/example/rainyday/rainyday/ExactSum"))) (by decide)
    refine Own.dup X1 at_64 rfl ?_
    refine Own.iconst X1 (v := 4) at_65 rfl ?_
    refine Own.callI_ (y := mn_4) (a := ts) X1 at_66 rfl (Own.wd hw 5 rfl) (Own.wd hw 6 rfl) (Own.wd hw 4 rfl) (Own.wd hw 7 rfl) (by decide) (rm1 l Z a0 hw ts h1 n0 Z3 A1 F4 F5 F6 fr2 ) (lenOf pd_16 rfl) rfl (argsL := [.int (4 : Int32)]) (rest := [.ref ts]) rfl (W := 1) (Nat.le_of_eq rfl) (by decide) (by decide) (by decide) (by decide) fun T7 h7 v7 X7 q7 => ?_
    obtain ⟨ra_66_7, rb_66_7, rc_66_7, k_ra_66_7, k_rb_66_7, k_rc_66_7, rfl, K7, B7_0, B7_1, B7_2, U7_0, U7_1, U7_2, G7_0, G7_1, G7_2, G7_3, G7_4, G7_5, Ov⟩ := q7
    have F8 := A1.keep K7
    have Z9 : n0 ≤ h7.size := Nat.le_trans Z3 K7.1
    have ne10 : ts ≠ ra_66_7 := Nat.ne_of_lt (Nat.lt_of_lt_of_le A1.lt B7_0)
    have fr11 : n0 ≤ ra_66_7 := Nat.le_trans Z3 B7_0
    have ne12 : ts ≠ rb_66_7 := Nat.ne_of_lt (Nat.lt_of_lt_of_le A1.lt B7_1)
    have fr13 : n0 ≤ rb_66_7 := Nat.le_trans Z3 B7_1
    have ne14 : ts ≠ rc_66_7 := Nat.ne_of_lt (Nat.lt_of_lt_of_le A1.lt B7_2)
    have fr15 : n0 ≤ rc_66_7 := Nat.le_trans Z3 B7_2
    show Own.Go p e below s n0 _ _ _ (T7.setTop (mkF m 69 _ [.ref ts]))
    refine Own.astore X7 at_69 rfl (l' := #[.val (.int i0), .val (.int i1), .val (.int i2), .val (.int i3), .val (.double d5), .second, .val (.double d9), .second, .val (.double d17), .second, .val (.int (0 : Int32)), .val (.double d5), .second, .val (.double d17), .second, .val (.ref ts), .unset, .unset, .unset, .unset, .unset, .unset, .unset, .unset, .unset, .unset, .unset, .unset, .unset, .unset, .unset]) rfl ?_
    refine Own.aload X7 at_71 rfl rfl ?_
    refine Own.iconst X7 (v := 0) at_73 rfl ?_
    refine Own.callV_ (y := mn_5) (z := mn_5) (a := ts) X7 at_74 (Own.wd hw 20 rfl) (Own.wd hw 21 rfl) (Own.wd hw 23 rfl) (Own.wd hw 22 rfl) rfl (Own.wd hw 4 rfl) (Own.wd hw 24 rfl) (by decide) F8 (rm3_0 l Z a0 hw ts ra_66_7 rb_66_7 rc_66_7 k_ra_66_7 k_rb_66_7 k_rc_66_7 0 0 0 0 0 0 0 0 (.null) (.null) (.null) (.null) h7 n0 Z9 G7_0 G7_1 G7_2 G7_3 G7_4 G7_5 ne10 ne12 ne14 U7_0 U7_1 U7_2 fr11 fr13 fr15 ) (lenOf pd_16 rfl) rfl (argsL := [.int (0 : Int32)]) (rest := []) rfl (W := 0) (Nat.le_of_eq rfl) (by decide) (by decide) (by decide) (by decide) fun T16 h16 v16 X16 q16 => ?_
    obtain ⟨rfl, K16, G16_0, G16_1, G16_2⟩ := q16
    have F17 := F8.keep K16
    have F18 := G7_0.keep K16 (ninS ne10 (ninS ne12 (ninS ne14 nin0)))
    have F19 := G7_1.keep K16 (ninS ne10 (ninS ne12 (ninS ne14 nin0)))
    have F20 := G7_2.keep K16 (ninS ne10 (ninS ne12 (ninS ne14 nin0)))
    have Z21 : n0 ≤ h16.size := Nat.le_trans Z9 K16.1
    show Own.Go p e below s n0 _ _ _ (T16.setTop (mkF m 77 _ []))
    refine Own.aload X16 at_77 rfl rfl ?_
    refine Own.iconst X16 (v := 1) at_79 rfl ?_
    refine Own.iconst X16 (v := 0) at_80 rfl ?_
    refine Own.dload X16 at_81 rfl ?_
    refine Own.callV_ (y := mn_13) (z := mn_13) (a := ts) X16 at_83 (Own.wd hw 25 rfl) (Own.wd hw 26 rfl) (Own.wd hw 28 rfl) (Own.wd hw 27 rfl) rfl (Own.wd hw 4 rfl) (Own.wd hw 29 rfl) (by decide) F17 (rm4_a l Z a0 hw ts d5 ra_66_7 rb_66_7 rc_66_7 k_ra_66_7 k_rb_66_7 k_rc_66_7 0 0 0 0 0 0 0 0 h16 n0 Z21 F18 F19 F20 G16_0 G16_1 G16_2 ne10 ne12 ne14 U7_0 U7_1 U7_2 fr11 fr13 fr15 (B_d5.mono (by decide)) (B_0.mono (by decide)) (B_0.mono (by decide)) Own.dz_0) (lenOf pd_17 rfl) rfl (argsL := [.int (1 : Int32), .int (0 : Int32), .double d5]) (rest := []) rfl (W := 0) (Nat.le_of_eq rfl) (by decide) (by decide) (by decide) (by decide) fun T22 h22 v22 X22 q22 => ?_
    obtain ⟨rfl, K22, G22_0, G22_1, G22_2⟩ := q22
    have F23 := F17.keep K22
    have F24 := F18.keep K22 (ninS ne10 (ninS ne12 (ninS ne14 nin0)))
    have F25 := F19.keep K22 (ninS ne10 (ninS ne12 (ninS ne14 nin0)))
    have F26 := F20.keep K22 (ninS ne10 (ninS ne12 (ninS ne14 nin0)))
    have Z27 : n0 ≤ h22.size := Nat.le_trans Z21 K22.1
    show Own.Go p e below s n0 _ _ _ (T22.setTop (mkF m 86 _ []))
    obtain ⟨v1, e_v1⟩ : ∃ v, (Own.VV d5 0 0) = v := ⟨_, rfl⟩
    rw [e_v1] at G22_0
    have B_v1 : Own.Bp v1 1238 := e_v1 ▸ Own.VV_bp (j := 1230) (B_d5.mono (by decide)) (B_0.mono (by decide)) (B_0.mono (by decide)) (by decide)
    have n_v1 := B_v1.nn
    have f_v1 := B_v1.1
    obtain ⟨t1, e_t1⟩ : ∃ v, (Own.RR d5 0 0) = v := ⟨_, rfl⟩
    rw [e_t1] at G22_1
    have B_t1 : Own.Bp t1 1242 := e_t1 ▸ Own.RR_bp (j := 1230) (B_d5.mono (by decide)) (B_0.mono (by decide)) (B_0.mono (by decide)) (by decide)
    have n_t1 := B_t1.nn
    have f_t1 := B_t1.1
    have z_t1 : Own.dz t1 = 0 := by rw [← e_t1, (Own.ext0_b (ad := d5) (B_d5.mono (by decide)) (B_0.mono (by decide)) (B_0.mono (by decide)) Own.dz_0 (Or.inl Own.dz_0)).2, Own.dz_0]
    have z_v1 : Own.dz v1 = Own.dz d5 := by rw [← e_v1, (Own.ext0_b (ad := d5) (B_d5.mono (by decide)) (B_0.mono (by decide)) (B_0.mono (by decide)) Own.dz_0 (Or.inl Own.dz_0)).1]
    refine Own.aload X22 at_86 rfl rfl ?_
    refine Own.iconst X22 (v := 2) at_88 rfl ?_
    refine Own.iconst X22 (v := 1) at_89 rfl ?_
    refine Own.dload X22 at_90 rfl ?_
    refine Own.callV_ (y := mn_13) (z := mn_13) (a := ts) X22 at_92 (Own.wd hw 25 rfl) (Own.wd hw 26 rfl) (Own.wd hw 28 rfl) (Own.wd hw 27 rfl) rfl (Own.wd hw 4 rfl) (Own.wd hw 29 rfl) (by decide) F23 (rm4_b l Z a0 hw ts d9 ra_66_7 rb_66_7 rc_66_7 k_ra_66_7 k_rb_66_7 k_rc_66_7 0 v1 0 0 0 t1 0 0 h22 n0 Z27 F24 F25 F26 G22_0 G22_1 G22_2 ne10 ne12 ne14 U7_0 U7_1 U7_2 fr11 fr13 fr15 (B_d9.mono (by decide)) (B_t1.mono (by decide)) (B_v1.mono (by decide)) z_t1) (lenOf pd_17 rfl) rfl (argsL := [.int (2 : Int32), .int (1 : Int32), .double d9]) (rest := []) rfl (W := 0) (Nat.le_of_eq rfl) (by decide) (by decide) (by decide) (by decide) fun T28 h28 v28 X28 q28 => ?_
    obtain ⟨rfl, K28, G28_0, G28_1, G28_2⟩ := q28
    have F29 := F23.keep K28
    have F30 := F24.keep K28 (ninS ne10 (ninS ne12 (ninS ne14 nin0)))
    have F31 := F25.keep K28 (ninS ne10 (ninS ne12 (ninS ne14 nin0)))
    have F32 := F26.keep K28 (ninS ne10 (ninS ne12 (ninS ne14 nin0)))
    have Z33 : n0 ≤ h28.size := Nat.le_trans Z27 K28.1
    show Own.Go p e below s n0 _ _ _ (T28.setTop (mkF m 95 _ []))
    obtain ⟨v2, e_v2⟩ : ∃ v, (Own.VV d9 t1 v1) = v := ⟨_, rfl⟩
    rw [e_v2] at G28_0
    have B_v2 : Own.Bp v2 1250 := e_v2 ▸ Own.VV_bp (j := 1242) (B_d9.mono (by decide)) (B_t1.mono (by decide)) (B_v1.mono (by decide)) (by decide)
    have n_v2 := B_v2.nn
    have f_v2 := B_v2.1
    obtain ⟨t2, e_t2⟩ : ∃ v, (Own.RR d9 t1 v1) = v := ⟨_, rfl⟩
    rw [e_t2] at G28_1
    have B_t2 : Own.Bp t2 1254 := e_t2 ▸ Own.RR_bp (j := 1242) (B_d9.mono (by decide)) (B_t1.mono (by decide)) (B_v1.mono (by decide)) (by decide)
    have n_t2 := B_t2.nn
    have f_t2 := B_t2.1
    have k2 := own_2a KK (B_v1.mono (by decide)) (B_t1.mono (by decide)) z_v1 z_t1
    rw [e_v2, e_t2] at k2
    have k3 := own_3a KK (B_v2.mono (by decide)) (B_t2.mono (by decide)) k2
    refine Own.aload X28 at_95 rfl rfl ?_
    refine Own.iconst X28 (v := 3) at_97 rfl ?_
    refine Own.iconst X28 (v := 2) at_98 rfl ?_
    refine Own.dload X28 at_99 rfl ?_
    refine Own.callV_ (y := mn_13) (z := mn_13) (a := ts) X28 at_101 (Own.wd hw 25 rfl) (Own.wd hw 26 rfl) (Own.wd hw 28 rfl) (Own.wd hw 27 rfl) rfl (Own.wd hw 4 rfl) (Own.wd hw 29 rfl) (by decide) F29 (rm4_c l Z a0 hw ts d17 ra_66_7 rb_66_7 rc_66_7 k_ra_66_7 k_rb_66_7 k_rc_66_7 0 v1 v2 0 0 t1 t2 0 h28 n0 Z33 F29 F30 F31 F32 G28_0 G28_1 G28_2 ne10 ne12 ne14 U7_0 U7_1 U7_2 fr11 fr13 fr15 (B_d17.mono (by decide)) (B_t2.mono (by decide)) (B_v2.mono (by decide)) Ov) (lenOf pd_17 rfl) rfl (argsL := [.int (3 : Int32), .int (2 : Int32), .double d17]) (rest := []) rfl (W := 0) (Nat.le_of_eq rfl) (by decide) (by decide) (by decide) (by decide) fun T34 h34 v34 X34 q34 => ?_
    obtain ⟨w3_101_34, t3_101_34, W3_101_34, rfl, K34, G34_0, G34_1, G34_2, Q3⟩ := q34
    have F35 := F29.keep K34
    have F36 := F30.keep K34 (ninS ne10 (ninS ne12 (ninS ne14 nin0)))
    have F37 := F31.keep K34 (ninS ne10 (ninS ne12 (ninS ne14 nin0)))
    have F38 := F32.keep K34 (ninS ne10 (ninS ne12 (ninS ne14 nin0)))
    have Z39 : n0 ≤ h34.size := Nat.le_trans Z33 K34.1
    show Own.Go p e below s n0 _ _ _ (T34.setTop (mkF m 104 _ []))
    obtain ⟨B_w3_101_34, B_t3_101_34, D3⟩ := Q3
    have n_w3_101_34 := B_w3_101_34.nn
    have n_t3_101_34 := B_t3_101_34.nn
    rcases D3 with ⟨x3, w3e, t3e, rfl⟩ | ⟨x3, ⟨ow, rfl⟩, u3⟩
    · refine Own.iloadN X34 at_104 rfl ?_
      obtain ⟨g1, g2⟩ := k3.1 x3
      rw [← w3e] at g1
      rw [← t3e] at g2
      suffices J105_40 : ∀ (z113_40 : Int32), z113_40 = Own.bo (¬ (i0.toInt = (0 : Int))) → Own.Go p e below s n0 (fun v _ => v = some (.int 1)) 24 128 (T34.setTop (mkF m 113 #[.val (.int i0), .val (.int i1), .val (.int i2), .val (.int i3), .val (.double d5), .second, .val (.double d9), .second, .val (.double d17), .second, .val (.int (0 : Int32)), .val (.double d5), .second, .val (.double d17), .second, .val (.ref ts), .unset, .unset, .unset, .unset, .unset, .unset, .unset, .unset, .unset, .unset, .unset, .unset, .unset, .unset, .unset] [.int z113_40])) by
        refine Own.iff_ X34 (pc' := 112) at_105 (by decide) (fun (h105 : i0.toInt = (0 : Int)) => ?_) (fun (h105 : ¬ (i0.toInt = (0 : Int))) => ?_)
        · refine Own.iconst X34 (v := 0) at_112 rfl ?_
          exact J105_40 _ (Own.bo_f (fun q => q h105))
        · refine Own.iconst X34 (v := 1) at_108 rfl ?_
          refine Own.goto_ X34 (pc' := 113) at_109 (by decide) ?_
          exact J105_40 _ (Own.bo_t (h105))
      intro z113_40 e_z113_40
      subst e_z113_40
      refine Own.istore X34 at_113 (l' := #[.val (.int i0), .val (.int i1), .val (.int i2), .val (.int i3), .val (.double d5), .second, .val (.double d9), .second, .val (.double d17), .second, .val (.int (0 : Int32)), .val (.double d5), .second, .val (.double d17), .second, .val (.ref ts), .val (.int (Own.bo (¬ (i0.toInt = (0 : Int))))), .unset, .unset, .unset, .unset, .unset, .unset, .unset, .unset, .unset, .unset, .unset, .unset, .unset, .unset]) rfl ?_
      refine Own.iloadN X34 at_115 rfl ?_
      suffices J116_41 : ∀ (z124_41 : Int32), z124_41 = Own.bo (¬ (i1.toInt = (0 : Int))) → Own.Go p e below s n0 (fun v _ => v = some (.int 1)) 24 128 (T34.setTop (mkF m 124 #[.val (.int i0), .val (.int i1), .val (.int i2), .val (.int i3), .val (.double d5), .second, .val (.double d9), .second, .val (.double d17), .second, .val (.int (0 : Int32)), .val (.double d5), .second, .val (.double d17), .second, .val (.ref ts), .val (.int (Own.bo (¬ (i0.toInt = (0 : Int))))), .unset, .unset, .unset, .unset, .unset, .unset, .unset, .unset, .unset, .unset, .unset, .unset, .unset, .unset] [.int z124_41])) by
        refine Own.iff_ X34 (pc' := 123) at_116 (by decide) (fun (h116 : i1.toInt = (0 : Int)) => ?_) (fun (h116 : ¬ (i1.toInt = (0 : Int))) => ?_)
        · refine Own.iconst X34 (v := 0) at_123 rfl ?_
          exact J116_41 _ (Own.bo_f (fun q => q h116))
        · refine Own.iconst X34 (v := 1) at_119 rfl ?_
          refine Own.goto_ X34 (pc' := 124) at_120 (by decide) ?_
          exact J116_41 _ (Own.bo_t (h116))
      intro z124_41 e_z124_41
      subst e_z124_41
      refine Own.istore X34 at_124 (l' := #[.val (.int i0), .val (.int i1), .val (.int i2), .val (.int i3), .val (.double d5), .second, .val (.double d9), .second, .val (.double d17), .second, .val (.int (0 : Int32)), .val (.double d5), .second, .val (.double d17), .second, .val (.ref ts), .val (.int (Own.bo (¬ (i0.toInt = (0 : Int))))), .val (.int (Own.bo (¬ (i1.toInt = (0 : Int))))), .unset, .unset, .unset, .unset, .unset, .unset, .unset, .unset, .unset, .unset, .unset, .unset, .unset]) rfl ?_
      refine Own.iloadN X34 at_126 rfl ?_
      suffices J127_42 : ∀ (z135_42 : Int32), z135_42 = Own.bo (¬ (i2.toInt = (0 : Int))) → Own.Go p e below s n0 (fun v _ => v = some (.int 1)) 24 128 (T34.setTop (mkF m 135 #[.val (.int i0), .val (.int i1), .val (.int i2), .val (.int i3), .val (.double d5), .second, .val (.double d9), .second, .val (.double d17), .second, .val (.int (0 : Int32)), .val (.double d5), .second, .val (.double d17), .second, .val (.ref ts), .val (.int (Own.bo (¬ (i0.toInt = (0 : Int))))), .val (.int (Own.bo (¬ (i1.toInt = (0 : Int))))), .unset, .unset, .unset, .unset, .unset, .unset, .unset, .unset, .unset, .unset, .unset, .unset, .unset] [.int z135_42])) by
        refine Own.iff_ X34 (pc' := 134) at_127 (by decide) (fun (h127 : i2.toInt = (0 : Int)) => ?_) (fun (h127 : ¬ (i2.toInt = (0 : Int))) => ?_)
        · refine Own.iconst X34 (v := 0) at_134 rfl ?_
          exact J127_42 _ (Own.bo_f (fun q => q h127))
        · refine Own.iconst X34 (v := 1) at_130 rfl ?_
          refine Own.goto_ X34 (pc' := 135) at_131 (by decide) ?_
          exact J127_42 _ (Own.bo_t (h127))
      intro z135_42 e_z135_42
      subst e_z135_42
      refine Own.istore X34 at_135 (l' := #[.val (.int i0), .val (.int i1), .val (.int i2), .val (.int i3), .val (.double d5), .second, .val (.double d9), .second, .val (.double d17), .second, .val (.int (0 : Int32)), .val (.double d5), .second, .val (.double d17), .second, .val (.ref ts), .val (.int (Own.bo (¬ (i0.toInt = (0 : Int))))), .val (.int (Own.bo (¬ (i1.toInt = (0 : Int))))), .val (.int (Own.bo (¬ (i2.toInt = (0 : Int))))), .unset, .unset, .unset, .unset, .unset, .unset, .unset, .unset, .unset, .unset, .unset, .unset]) rfl ?_
      refine Own.iload X34 at_137 rfl ?_
      refine Own.iff_ X34 (pc' := 147) at_139 (by decide) (fun _ => ?_) (fun q => absurd (show (0 : Int) = (0 : Int) from by decide) q)
      refine Own.iload X34 at_147 rfl ?_
      refine Own.istore X34 at_149 (l' := #[.val (.int i0), .val (.int i1), .val (.int i2), .val (.int i3), .val (.double d5), .second, .val (.double d9), .second, .val (.double d17), .second, .val (.int (0 : Int32)), .val (.double d5), .second, .val (.double d17), .second, .val (.ref ts), .val (.int (Own.bo (¬ (i0.toInt = (0 : Int))))), .val (.int (Own.bo (¬ (i1.toInt = (0 : Int))))), .val (.int (Own.bo (¬ (i2.toInt = (0 : Int))))), .val (.int (Own.bo (¬ (i0.toInt = (0 : Int))))), .unset, .unset, .unset, .unset, .unset, .unset, .unset, .unset, .unset, .unset, .unset]) rfl ?_
      refine Own.iload X34 at_151 rfl ?_
      suffices J153_43 : ∀ (z161_43 : Int32), z161_43 = Own.bo (¬ (i0.toInt = (0 : Int))) → Own.Go p e below s n0 (fun v _ => v = some (.int 1)) 24 128 (T34.setTop (mkF m 161 #[.val (.int i0), .val (.int i1), .val (.int i2), .val (.int i3), .val (.double d5), .second, .val (.double d9), .second, .val (.double d17), .second, .val (.int (0 : Int32)), .val (.double d5), .second, .val (.double d17), .second, .val (.ref ts), .val (.int (Own.bo (¬ (i0.toInt = (0 : Int))))), .val (.int (Own.bo (¬ (i1.toInt = (0 : Int))))), .val (.int (Own.bo (¬ (i2.toInt = (0 : Int))))), .val (.int (Own.bo (¬ (i0.toInt = (0 : Int))))), .unset, .unset, .unset, .unset, .unset, .unset, .unset, .unset, .unset, .unset, .unset] [.int z161_43])) by
        refine Own.ifeqB X34 (pc' := 160) at_153 (by decide) (fun (h153 : ¬ (¬ (i0.toInt = (0 : Int)))) => ?_) (fun (h153 : ¬ (i0.toInt = (0 : Int))) => ?_)
        · refine Own.iconst X34 (v := 0) at_160 rfl ?_
          exact J153_43 _ (Own.bo_f (h153))
        · refine Own.iconst X34 (v := 1) at_156 rfl ?_
          refine Own.goto_ X34 (pc' := 161) at_157 (by decide) ?_
          exact J153_43 _ (Own.bo_t (h153))
      intro z161_43 e_z161_43
      subst e_z161_43
      refine Own.iload X34 at_161 rfl ?_
      suffices J163_44 : ∀ (z171_44 : Int32), z171_44 = Own.bo (¬ (i1.toInt = (0 : Int))) → Own.Go p e below s n0 (fun v _ => v = some (.int 1)) 24 128 (T34.setTop (mkF m 171 #[.val (.int i0), .val (.int i1), .val (.int i2), .val (.int i3), .val (.double d5), .second, .val (.double d9), .second, .val (.double d17), .second, .val (.int (0 : Int32)), .val (.double d5), .second, .val (.double d17), .second, .val (.ref ts), .val (.int (Own.bo (¬ (i0.toInt = (0 : Int))))), .val (.int (Own.bo (¬ (i1.toInt = (0 : Int))))), .val (.int (Own.bo (¬ (i2.toInt = (0 : Int))))), .val (.int (Own.bo (¬ (i0.toInt = (0 : Int))))), .unset, .unset, .unset, .unset, .unset, .unset, .unset, .unset, .unset, .unset, .unset] [.int z171_44, .int (Own.bo (¬ (i0.toInt = (0 : Int))))])) by
        refine Own.ifeqB X34 (pc' := 170) at_163 (by decide) (fun (h163 : ¬ (¬ (i1.toInt = (0 : Int)))) => ?_) (fun (h163 : ¬ (i1.toInt = (0 : Int))) => ?_)
        · refine Own.iconst X34 (v := 0) at_170 rfl ?_
          exact J163_44 _ (Own.bo_f (h163))
        · refine Own.iconst X34 (v := 1) at_166 rfl ?_
          refine Own.goto_ X34 (pc' := 171) at_167 (by decide) ?_
          exact J163_44 _ (Own.bo_t (h163))
      intro z171_44 e_z171_44
      subst e_z171_44
      refine Own.iadd X34 at_171 ?_
      refine Own.iload X34 at_172 rfl ?_
      suffices J174_45 : ∀ (z182_45 : Int32), z182_45 = Own.bo (¬ (i2.toInt = (0 : Int))) → Own.Go p e below s n0 (fun v _ => v = some (.int 1)) 24 128 (T34.setTop (mkF m 182 #[.val (.int i0), .val (.int i1), .val (.int i2), .val (.int i3), .val (.double d5), .second, .val (.double d9), .second, .val (.double d17), .second, .val (.int (0 : Int32)), .val (.double d5), .second, .val (.double d17), .second, .val (.ref ts), .val (.int (Own.bo (¬ (i0.toInt = (0 : Int))))), .val (.int (Own.bo (¬ (i1.toInt = (0 : Int))))), .val (.int (Own.bo (¬ (i2.toInt = (0 : Int))))), .val (.int (Own.bo (¬ (i0.toInt = (0 : Int))))), .unset, .unset, .unset, .unset, .unset, .unset, .unset, .unset, .unset, .unset, .unset] [.int z182_45, .int ((Own.bo (¬ (i0.toInt = (0 : Int)))) + (Own.bo (¬ (i1.toInt = (0 : Int)))))])) by
        refine Own.ifeqB X34 (pc' := 181) at_174 (by decide) (fun (h174 : ¬ (¬ (i2.toInt = (0 : Int)))) => ?_) (fun (h174 : ¬ (i2.toInt = (0 : Int))) => ?_)
        · refine Own.iconst X34 (v := 0) at_181 rfl ?_
          exact J174_45 _ (Own.bo_f (h174))
        · refine Own.iconst X34 (v := 1) at_177 rfl ?_
          refine Own.goto_ X34 (pc' := 182) at_178 (by decide) ?_
          exact J174_45 _ (Own.bo_t (h174))
      intro z182_45 e_z182_45
      subst e_z182_45
      refine Own.iadd X34 at_182 ?_
      refine Own.istore X34 at_183 (l' := #[.val (.int i0), .val (.int i1), .val (.int i2), .val (.int i3), .val (.double d5), .second, .val (.double d9), .second, .val (.double d17), .second, .val (.int (0 : Int32)), .val (.double d5), .second, .val (.double d17), .second, .val (.ref ts), .val (.int (Own.bo (¬ (i0.toInt = (0 : Int))))), .val (.int (Own.bo (¬ (i1.toInt = (0 : Int))))), .val (.int (Own.bo (¬ (i2.toInt = (0 : Int))))), .val (.int (Own.bo (¬ (i0.toInt = (0 : Int))))), .val (.int (((Own.bo (¬ (i0.toInt = (0 : Int)))) + (Own.bo (¬ (i1.toInt = (0 : Int))))) + (Own.bo (¬ (i2.toInt = (0 : Int)))))), .unset, .unset, .unset, .unset, .unset, .unset, .unset, .unset, .unset, .unset]) rfl ?_
      refine Own.iload X34 at_185 rfl ?_
      suffices J187_46 : ∀ (z200_46 : Int32), z200_46 = Own.bo (¬ (¬ (i0.toInt = (0 : Int))) ∨ (¬ (¬ (i1.toInt = (0 : Int))))) → Own.Go p e below s n0 (fun v _ => v = some (.int 1)) 24 128 (T34.setTop (mkF m 200 #[.val (.int i0), .val (.int i1), .val (.int i2), .val (.int i3), .val (.double d5), .second, .val (.double d9), .second, .val (.double d17), .second, .val (.int (0 : Int32)), .val (.double d5), .second, .val (.double d17), .second, .val (.ref ts), .val (.int (Own.bo (¬ (i0.toInt = (0 : Int))))), .val (.int (Own.bo (¬ (i1.toInt = (0 : Int))))), .val (.int (Own.bo (¬ (i2.toInt = (0 : Int))))), .val (.int (Own.bo (¬ (i0.toInt = (0 : Int))))), .val (.int (((Own.bo (¬ (i0.toInt = (0 : Int)))) + (Own.bo (¬ (i1.toInt = (0 : Int))))) + (Own.bo (¬ (i2.toInt = (0 : Int)))))), .unset, .unset, .unset, .unset, .unset, .unset, .unset, .unset, .unset, .unset] [.int z200_46])) by
        refine Own.ifeqB X34 (pc' := 195) at_187 (by decide) (fun (h187 : ¬ (¬ (i0.toInt = (0 : Int)))) => ?_) (fun (h187 : ¬ (i0.toInt = (0 : Int))) => ?_)
        · refine Own.iconst X34 (v := 1) at_195 rfl ?_
          refine Own.goto_ X34 (pc' := 200) at_196 (by decide) ?_
          exact J187_46 _ (Own.bo_t (Or.inl h187))
        · refine Own.iload X34 at_190 rfl ?_
          refine Own.ifneB X34 (pc' := 199) at_192 (by decide) (fun (h192 : ¬ (i1.toInt = (0 : Int))) => ?_) (fun (h192 : ¬ (¬ (i1.toInt = (0 : Int)))) => ?_)
          · refine Own.iconst X34 (v := 0) at_199 rfl ?_
            exact J187_46 _ (Own.bo_f (fun q => q.elim (fun z => z h187) (fun q => q h192)))
          · refine Own.iconst X34 (v := 1) at_195 rfl ?_
            refine Own.goto_ X34 (pc' := 200) at_196 (by decide) ?_
            exact J187_46 _ (Own.bo_t (Or.inr (h192)))
      intro z200_46 e_z200_46
      subst e_z200_46
      refine Own.istore X34 at_200 (l' := #[.val (.int i0), .val (.int i1), .val (.int i2), .val (.int i3), .val (.double d5), .second, .val (.double d9), .second, .val (.double d17), .second, .val (.int (0 : Int32)), .val (.double d5), .second, .val (.double d17), .second, .val (.ref ts), .val (.int (Own.bo (¬ (i0.toInt = (0 : Int))))), .val (.int (Own.bo (¬ (i1.toInt = (0 : Int))))), .val (.int (Own.bo (¬ (i2.toInt = (0 : Int))))), .val (.int (Own.bo (¬ (i0.toInt = (0 : Int))))), .val (.int (((Own.bo (¬ (i0.toInt = (0 : Int)))) + (Own.bo (¬ (i1.toInt = (0 : Int))))) + (Own.bo (¬ (i2.toInt = (0 : Int)))))), .val (.int (Own.bo (¬ (¬ (i0.toInt = (0 : Int))) ∨ (¬ (¬ (i1.toInt = (0 : Int))))))), .unset, .unset, .unset, .unset, .unset, .unset, .unset, .unset, .unset]) rfl ?_
      refine Own.iload X34 at_202 rfl ?_
      refine Own.iconst X34 (v := 1) at_204 rfl ?_
      suffices J205_47 : ∀ (z213_47 : Int32), z213_47 = Own.bo (¬ ((1 : Int) < (((Own.bo (¬ (i0.toInt = (0 : Int)))) + (Own.bo (¬ (i1.toInt = (0 : Int))))) + (Own.bo (¬ (i2.toInt = (0 : Int))))).toInt)) → Own.Go p e below s n0 (fun v _ => v = some (.int 1)) 24 128 (T34.setTop (mkF m 213 #[.val (.int i0), .val (.int i1), .val (.int i2), .val (.int i3), .val (.double d5), .second, .val (.double d9), .second, .val (.double d17), .second, .val (.int (0 : Int32)), .val (.double d5), .second, .val (.double d17), .second, .val (.ref ts), .val (.int (Own.bo (¬ (i0.toInt = (0 : Int))))), .val (.int (Own.bo (¬ (i1.toInt = (0 : Int))))), .val (.int (Own.bo (¬ (i2.toInt = (0 : Int))))), .val (.int (Own.bo (¬ (i0.toInt = (0 : Int))))), .val (.int (((Own.bo (¬ (i0.toInt = (0 : Int)))) + (Own.bo (¬ (i1.toInt = (0 : Int))))) + (Own.bo (¬ (i2.toInt = (0 : Int)))))), .val (.int (Own.bo (¬ (¬ (i0.toInt = (0 : Int))) ∨ (¬ (¬ (i1.toInt = (0 : Int))))))), .unset, .unset, .unset, .unset, .unset, .unset, .unset, .unset, .unset] [.int z213_47])) by
        refine Own.icmp_ X34 (pc' := 212) at_205 (by decide) (fun (h205 : (1 : Int) < (((Own.bo (¬ (i0.toInt = (0 : Int)))) + (Own.bo (¬ (i1.toInt = (0 : Int))))) + (Own.bo (¬ (i2.toInt = (0 : Int))))).toInt) => ?_) (fun (h205 : ¬ ((1 : Int) < (((Own.bo (¬ (i0.toInt = (0 : Int)))) + (Own.bo (¬ (i1.toInt = (0 : Int))))) + (Own.bo (¬ (i2.toInt = (0 : Int))))).toInt)) => ?_)
        · refine Own.iconst X34 (v := 0) at_212 rfl ?_
          exact J205_47 _ (Own.bo_f (fun q => q h205))
        · refine Own.iconst X34 (v := 1) at_208 rfl ?_
          refine Own.goto_ X34 (pc' := 213) at_209 (by decide) ?_
          exact J205_47 _ (Own.bo_t (h205))
      intro z213_47 e_z213_47
      subst e_z213_47
      refine Own.istore X34 at_213 (l' := #[.val (.int i0), .val (.int i1), .val (.int i2), .val (.int i3), .val (.double d5), .second, .val (.double d9), .second, .val (.double d17), .second, .val (.int (0 : Int32)), .val (.double d5), .second, .val (.double d17), .second, .val (.ref ts), .val (.int (Own.bo (¬ (i0.toInt = (0 : Int))))), .val (.int (Own.bo (¬ (i1.toInt = (0 : Int))))), .val (.int (Own.bo (¬ (i2.toInt = (0 : Int))))), .val (.int (Own.bo (¬ (i0.toInt = (0 : Int))))), .val (.int (((Own.bo (¬ (i0.toInt = (0 : Int)))) + (Own.bo (¬ (i1.toInt = (0 : Int))))) + (Own.bo (¬ (i2.toInt = (0 : Int)))))), .val (.int (Own.bo (¬ (¬ (i0.toInt = (0 : Int))) ∨ (¬ (¬ (i1.toInt = (0 : Int))))))), .val (.int (Own.bo (¬ ((1 : Int) < (((Own.bo (¬ (i0.toInt = (0 : Int)))) + (Own.bo (¬ (i1.toInt = (0 : Int))))) + (Own.bo (¬ (i2.toInt = (0 : Int))))).toInt)))), .unset, .unset, .unset, .unset, .unset, .unset, .unset, .unset]) rfl ?_
      refine Own.iload X34 at_215 rfl ?_
      suffices J217_48 : ∀ (z237_48 : UInt64), z237_48 = (if ¬ (i0.toInt = (0 : Int)) then d5 else (if ¬ (i1.toInt = (0 : Int)) then d9 else d17)) → Own.Go p e below s n0 (fun v _ => v = some (.int 1)) 24 128 (T34.setTop (mkF m 237 #[.val (.int i0), .val (.int i1), .val (.int i2), .val (.int i3), .val (.double d5), .second, .val (.double d9), .second, .val (.double d17), .second, .val (.int (0 : Int32)), .val (.double d5), .second, .val (.double d17), .second, .val (.ref ts), .val (.int (Own.bo (¬ (i0.toInt = (0 : Int))))), .val (.int (Own.bo (¬ (i1.toInt = (0 : Int))))), .val (.int (Own.bo (¬ (i2.toInt = (0 : Int))))), .val (.int (Own.bo (¬ (i0.toInt = (0 : Int))))), .val (.int (((Own.bo (¬ (i0.toInt = (0 : Int)))) + (Own.bo (¬ (i1.toInt = (0 : Int))))) + (Own.bo (¬ (i2.toInt = (0 : Int)))))), .val (.int (Own.bo (¬ (¬ (i0.toInt = (0 : Int))) ∨ (¬ (¬ (i1.toInt = (0 : Int))))))), .val (.int (Own.bo (¬ ((1 : Int) < (((Own.bo (¬ (i0.toInt = (0 : Int)))) + (Own.bo (¬ (i1.toInt = (0 : Int))))) + (Own.bo (¬ (i2.toInt = (0 : Int))))).toInt)))), .unset, .unset, .unset, .unset, .unset, .unset, .unset, .unset] [.double z237_48])) by
        refine Own.ifeqB X34 (pc' := 225) at_217 (by decide) (fun (h217 : ¬ (¬ (i0.toInt = (0 : Int)))) => ?_) (fun (h217 : ¬ (i0.toInt = (0 : Int))) => ?_)
        · refine Own.iload X34 at_225 rfl ?_
          refine Own.ifeqB X34 (pc' := 235) at_227 (by decide) (fun (h227 : ¬ (¬ (i1.toInt = (0 : Int)))) => ?_) (fun (h227 : ¬ (i1.toInt = (0 : Int))) => ?_)
          · refine Own.dload X34 at_235 rfl ?_
            exact J217_48 _ ((if_neg h217).trans (if_neg h227)).symm
          · refine Own.dload X34 at_230 rfl ?_
            refine Own.goto_ X34 (pc' := 237) at_232 (by decide) ?_
            exact J217_48 _ ((if_neg h217).trans (if_pos h227)).symm
        · refine Own.dload X34 at_220 rfl ?_
          refine Own.goto_ X34 (pc' := 237) at_222 (by decide) ?_
          exact J217_48 _ (if_pos h217).symm
      intro xp e_xp
      have n_xp : NoNaN64 xp := by rw [e_xp]; split; assumption; split <;> assumption
      have x_xp : (i0.toInt ≠ 0 → Own.dz xp = Own.dz d5) ∧ (i0.toInt = 0 → i1.toInt ≠ 0 → Own.dz xp = Own.dz d9) ∧ (i0.toInt = 0 → i1.toInt = 0 → Own.dz xp = Own.dz d17) := by rw [e_xp]; exact ⟨fun q => by rw [if_pos q], fun q z => by rw [if_neg (fun w => w q), if_pos z], fun q z => by rw [if_neg (fun w => w q), if_neg (fun w => w z)]⟩
      refine Own.dstore X34 at_237 (l' := #[.val (.int i0), .val (.int i1), .val (.int i2), .val (.int i3), .val (.double d5), .second, .val (.double d9), .second, .val (.double d17), .second, .val (.int (0 : Int32)), .val (.double d5), .second, .val (.double d17), .second, .val (.ref ts), .val (.int (Own.bo (¬ (i0.toInt = (0 : Int))))), .val (.int (Own.bo (¬ (i1.toInt = (0 : Int))))), .val (.int (Own.bo (¬ (i2.toInt = (0 : Int))))), .val (.int (Own.bo (¬ (i0.toInt = (0 : Int))))), .val (.int (((Own.bo (¬ (i0.toInt = (0 : Int)))) + (Own.bo (¬ (i1.toInt = (0 : Int))))) + (Own.bo (¬ (i2.toInt = (0 : Int)))))), .val (.int (Own.bo (¬ (¬ (i0.toInt = (0 : Int))) ∨ (¬ (¬ (i1.toInt = (0 : Int))))))), .val (.int (Own.bo (¬ ((1 : Int) < (((Own.bo (¬ (i0.toInt = (0 : Int)))) + (Own.bo (¬ (i1.toInt = (0 : Int))))) + (Own.bo (¬ (i2.toInt = (0 : Int))))).toInt)))), .val (.double xp), .second, .unset, .unset, .unset, .unset, .unset, .unset]) rfl ?_
      refine Own.aload X34 at_239 rfl rfl ?_
      refine Own.iconst X34 (v := 0) at_241 rfl ?_
      refine Own.callV_ (y := mn_7) (z := mn_7) (a := ts) X34 at_242 (Own.wd hw 43 rfl) (Own.wd hw 44 rfl) (Own.wd hw 46 rfl) (Own.wd hw 45 rfl) rfl (Own.wd hw 4 rfl) (Own.wd hw 47 rfl) (by decide) F35 (rm8_0 l Z a0 hw ts rb_66_7 rc_66_7 k_rb_66_7 k_rc_66_7 0 t1 t2 t3_101_34 (.null) (.null) (.null) h34 n0 Z39 F37 F38 G34_1 G34_2 Own.nn_0 ) (lenOf pd_18 rfl) rfl (argsL := [.int (0 : Int32)]) (rest := []) rfl (W := 0) (Nat.le_of_eq rfl) (by decide) (by decide) (by decide) (by decide) fun T49 h49 v49 X49 q49 => ?_
      obtain ⟨rfl, rfl⟩ := q49
      show Own.Go p e below s n0 _ _ _ (T49.setTop (mkF m 245 _ [.int (Own.bo (Own.dz 0 = Own.dz 0))]))
      refine Own.istore X49 at_245 (l' := #[.val (.int i0), .val (.int i1), .val (.int i2), .val (.int i3), .val (.double d5), .second, .val (.double d9), .second, .val (.double d17), .second, .val (.int (0 : Int32)), .val (.double d5), .second, .val (.double d17), .second, .val (.ref ts), .val (.int (Own.bo (¬ (i0.toInt = (0 : Int))))), .val (.int (Own.bo (¬ (i1.toInt = (0 : Int))))), .val (.int (Own.bo (¬ (i2.toInt = (0 : Int))))), .val (.int (Own.bo (¬ (i0.toInt = (0 : Int))))), .val (.int (((Own.bo (¬ (i0.toInt = (0 : Int)))) + (Own.bo (¬ (i1.toInt = (0 : Int))))) + (Own.bo (¬ (i2.toInt = (0 : Int)))))), .val (.int (Own.bo (¬ (¬ (i0.toInt = (0 : Int))) ∨ (¬ (¬ (i1.toInt = (0 : Int))))))), .val (.int (Own.bo (¬ ((1 : Int) < (((Own.bo (¬ (i0.toInt = (0 : Int)))) + (Own.bo (¬ (i1.toInt = (0 : Int))))) + (Own.bo (¬ (i2.toInt = (0 : Int))))).toInt)))), .val (.double xp), .second, .val (.int (Own.bo (Own.dz 0 = Own.dz 0))), .unset, .unset, .unset, .unset, .unset]) rfl ?_
      refine Own.aload X49 at_247 rfl rfl ?_
      refine Own.iconst X49 (v := 1) at_249 rfl ?_
      refine Own.callV_ (y := mn_7) (z := mn_7) (a := ts) X49 at_250 (Own.wd hw 43 rfl) (Own.wd hw 44 rfl) (Own.wd hw 46 rfl) (Own.wd hw 45 rfl) rfl (Own.wd hw 4 rfl) (Own.wd hw 47 rfl) (by decide) F35 (rm8_1 l Z a0 hw ts rb_66_7 rc_66_7 k_rb_66_7 k_rc_66_7 0 t1 t2 t3_101_34 (.null) (.null) (.null) h34 n0 Z39 F37 F38 G34_1 G34_2 n_t1 ) (lenOf pd_18 rfl) rfl (argsL := [.int (1 : Int32)]) (rest := []) rfl (W := 0) (Nat.le_of_eq rfl) (by decide) (by decide) (by decide) (by decide) fun T50 h50 v50 X50 q50 => ?_
      obtain ⟨rfl, rfl⟩ := q50
      show Own.Go p e below s n0 _ _ _ (T50.setTop (mkF m 253 _ [.int (Own.bo (Own.dz t1 = Own.dz 0))]))
      refine Own.istore X50 at_253 (l' := #[.val (.int i0), .val (.int i1), .val (.int i2), .val (.int i3), .val (.double d5), .second, .val (.double d9), .second, .val (.double d17), .second, .val (.int (0 : Int32)), .val (.double d5), .second, .val (.double d17), .second, .val (.ref ts), .val (.int (Own.bo (¬ (i0.toInt = (0 : Int))))), .val (.int (Own.bo (¬ (i1.toInt = (0 : Int))))), .val (.int (Own.bo (¬ (i2.toInt = (0 : Int))))), .val (.int (Own.bo (¬ (i0.toInt = (0 : Int))))), .val (.int (((Own.bo (¬ (i0.toInt = (0 : Int)))) + (Own.bo (¬ (i1.toInt = (0 : Int))))) + (Own.bo (¬ (i2.toInt = (0 : Int)))))), .val (.int (Own.bo (¬ (¬ (i0.toInt = (0 : Int))) ∨ (¬ (¬ (i1.toInt = (0 : Int))))))), .val (.int (Own.bo (¬ ((1 : Int) < (((Own.bo (¬ (i0.toInt = (0 : Int)))) + (Own.bo (¬ (i1.toInt = (0 : Int))))) + (Own.bo (¬ (i2.toInt = (0 : Int))))).toInt)))), .val (.double xp), .second, .val (.int (Own.bo (Own.dz 0 = Own.dz 0))), .val (.int (Own.bo (Own.dz t1 = Own.dz 0))), .unset, .unset, .unset, .unset]) rfl ?_
      refine Own.aload X50 at_255 rfl rfl ?_
      refine Own.iconst X50 (v := 2) at_257 rfl ?_
      refine Own.callV_ (y := mn_7) (z := mn_7) (a := ts) X50 at_258 (Own.wd hw 43 rfl) (Own.wd hw 44 rfl) (Own.wd hw 46 rfl) (Own.wd hw 45 rfl) rfl (Own.wd hw 4 rfl) (Own.wd hw 47 rfl) (by decide) F35 (rm8_2 l Z a0 hw ts rb_66_7 rc_66_7 k_rb_66_7 k_rc_66_7 0 t1 t2 t3_101_34 (.null) (.null) (.null) h34 n0 Z39 F37 F38 G34_1 G34_2 n_t2 ) (lenOf pd_18 rfl) rfl (argsL := [.int (2 : Int32)]) (rest := []) rfl (W := 0) (Nat.le_of_eq rfl) (by decide) (by decide) (by decide) (by decide) fun T51 h51 v51 X51 q51 => ?_
      obtain ⟨rfl, rfl⟩ := q51
      show Own.Go p e below s n0 _ _ _ (T51.setTop (mkF m 261 _ [.int (Own.bo (Own.dz t2 = Own.dz 0))]))
      refine Own.istore X51 at_261 (l' := #[.val (.int i0), .val (.int i1), .val (.int i2), .val (.int i3), .val (.double d5), .second, .val (.double d9), .second, .val (.double d17), .second, .val (.int (0 : Int32)), .val (.double d5), .second, .val (.double d17), .second, .val (.ref ts), .val (.int (Own.bo (¬ (i0.toInt = (0 : Int))))), .val (.int (Own.bo (¬ (i1.toInt = (0 : Int))))), .val (.int (Own.bo (¬ (i2.toInt = (0 : Int))))), .val (.int (Own.bo (¬ (i0.toInt = (0 : Int))))), .val (.int (((Own.bo (¬ (i0.toInt = (0 : Int)))) + (Own.bo (¬ (i1.toInt = (0 : Int))))) + (Own.bo (¬ (i2.toInt = (0 : Int)))))), .val (.int (Own.bo (¬ (¬ (i0.toInt = (0 : Int))) ∨ (¬ (¬ (i1.toInt = (0 : Int))))))), .val (.int (Own.bo (¬ ((1 : Int) < (((Own.bo (¬ (i0.toInt = (0 : Int)))) + (Own.bo (¬ (i1.toInt = (0 : Int))))) + (Own.bo (¬ (i2.toInt = (0 : Int))))).toInt)))), .val (.double xp), .second, .val (.int (Own.bo (Own.dz 0 = Own.dz 0))), .val (.int (Own.bo (Own.dz t1 = Own.dz 0))), .val (.int (Own.bo (Own.dz t2 = Own.dz 0))), .unset, .unset, .unset]) rfl ?_
      refine Own.aload X51 at_263 rfl rfl ?_
      refine Own.iconst X51 (v := 3) at_265 rfl ?_
      refine Own.callV_ (y := mn_7) (z := mn_7) (a := ts) X51 at_266 (Own.wd hw 43 rfl) (Own.wd hw 44 rfl) (Own.wd hw 46 rfl) (Own.wd hw 45 rfl) rfl (Own.wd hw 4 rfl) (Own.wd hw 47 rfl) (by decide) F35 (rm8_3 l Z a0 hw ts rb_66_7 rc_66_7 k_rb_66_7 k_rc_66_7 0 t1 t2 t3_101_34 (.null) (.null) (.null) h34 n0 Z39 F37 F38 G34_1 G34_2 n_t3_101_34 ) (lenOf pd_18 rfl) rfl (argsL := [.int (3 : Int32)]) (rest := []) rfl (W := 0) (Nat.le_of_eq rfl) (by decide) (by decide) (by decide) (by decide) fun T52 h52 v52 X52 q52 => ?_
      obtain ⟨rfl, rfl⟩ := q52
      show Own.Go p e below s n0 _ _ _ (T52.setTop (mkF m 269 _ [.int (Own.bo (Own.dz t3_101_34 = Own.dz 0))]))
      refine Own.istore X52 at_269 (l' := #[.val (.int i0), .val (.int i1), .val (.int i2), .val (.int i3), .val (.double d5), .second, .val (.double d9), .second, .val (.double d17), .second, .val (.int (0 : Int32)), .val (.double d5), .second, .val (.double d17), .second, .val (.ref ts), .val (.int (Own.bo (¬ (i0.toInt = (0 : Int))))), .val (.int (Own.bo (¬ (i1.toInt = (0 : Int))))), .val (.int (Own.bo (¬ (i2.toInt = (0 : Int))))), .val (.int (Own.bo (¬ (i0.toInt = (0 : Int))))), .val (.int (((Own.bo (¬ (i0.toInt = (0 : Int)))) + (Own.bo (¬ (i1.toInt = (0 : Int))))) + (Own.bo (¬ (i2.toInt = (0 : Int)))))), .val (.int (Own.bo (¬ (¬ (i0.toInt = (0 : Int))) ∨ (¬ (¬ (i1.toInt = (0 : Int))))))), .val (.int (Own.bo (¬ ((1 : Int) < (((Own.bo (¬ (i0.toInt = (0 : Int)))) + (Own.bo (¬ (i1.toInt = (0 : Int))))) + (Own.bo (¬ (i2.toInt = (0 : Int))))).toInt)))), .val (.double xp), .second, .val (.int (Own.bo (Own.dz 0 = Own.dz 0))), .val (.int (Own.bo (Own.dz t1 = Own.dz 0))), .val (.int (Own.bo (Own.dz t2 = Own.dz 0))), .val (.int (Own.bo (Own.dz t3_101_34 = Own.dz 0))), .unset, .unset]) rfl ?_
      refine Own.aload X52 at_271 rfl rfl ?_
      refine Own.iconst X52 (v := 3) at_273 rfl ?_
      refine Own.callV_ (y := mn_6) (z := mn_6) (a := ts) X52 at_274 (Own.wd hw 48 rfl) (Own.wd hw 49 rfl) (Own.wd hw 51 rfl) (Own.wd hw 50 rfl) rfl (Own.wd hw 4 rfl) (Own.wd hw 52 rfl) (by decide) F35 (rm9_3 l Z a0 hw ts ra_66_7 k_ra_66_7 0 v1 v2 w3_101_34 h34 n0 Z39 F36 G34_0 ) (lenOf pd_19 rfl) rfl (argsL := [.int (3 : Int32)]) (rest := []) rfl (W := 0) (Nat.le_of_eq rfl) (by decide) (by decide) (by decide) (by decide) fun T53 h53 v53 X53 q53 => ?_
      obtain ⟨rfl, rfl⟩ := q53
      show Own.Go p e below s n0 _ _ _ (T53.setTop (mkF m 277 _ [.double w3_101_34]))
      refine Own.dstore X53 at_277 (l' := #[.val (.int i0), .val (.int i1), .val (.int i2), .val (.int i3), .val (.double d5), .second, .val (.double d9), .second, .val (.double d17), .second, .val (.int (0 : Int32)), .val (.double d5), .second, .val (.double d17), .second, .val (.ref ts), .val (.int (Own.bo (¬ (i0.toInt = (0 : Int))))), .val (.int (Own.bo (¬ (i1.toInt = (0 : Int))))), .val (.int (Own.bo (¬ (i2.toInt = (0 : Int))))), .val (.int (Own.bo (¬ (i0.toInt = (0 : Int))))), .val (.int (((Own.bo (¬ (i0.toInt = (0 : Int)))) + (Own.bo (¬ (i1.toInt = (0 : Int))))) + (Own.bo (¬ (i2.toInt = (0 : Int)))))), .val (.int (Own.bo (¬ (¬ (i0.toInt = (0 : Int))) ∨ (¬ (¬ (i1.toInt = (0 : Int))))))), .val (.int (Own.bo (¬ ((1 : Int) < (((Own.bo (¬ (i0.toInt = (0 : Int)))) + (Own.bo (¬ (i1.toInt = (0 : Int))))) + (Own.bo (¬ (i2.toInt = (0 : Int))))).toInt)))), .val (.double xp), .second, .val (.int (Own.bo (Own.dz 0 = Own.dz 0))), .val (.int (Own.bo (Own.dz t1 = Own.dz 0))), .val (.int (Own.bo (Own.dz t2 = Own.dz 0))), .val (.int (Own.bo (Own.dz t3_101_34 = Own.dz 0))), .val (.double w3_101_34), .second]) rfl ?_
      refine Own.iload X53 at_279 rfl ?_
      refine Own.ifeqB X53 (pc' := 315) at_281 (by decide) (fun q => absurd (show ¬ (Own.dz 0 = Own.dz 0) from q) (show ¬ (¬ (Own.dz 0 = Own.dz 0)) from fun z => z (rfl))) (fun _ => ?_)
      refine Own.iload X53 at_284 rfl ?_
      refine Own.ifeqB X53 (pc' := 315) at_286 (by decide) (fun q => absurd (show ¬ (Own.dz t1 = Own.dz 0) from q) (show ¬ (¬ (Own.dz t1 = Own.dz 0)) from fun z => z (z_t1.trans Own.dz_0.symm))) (fun _ => ?_)
      refine Own.iload X53 at_289 rfl ?_
      refine Own.iload X53 at_291 rfl ?_
      refine Own.icmpneB (P := Own.dz t2 = Own.dz 0) (P' := ¬ (¬ (i0.toInt = (0 : Int))) ∨ (¬ (¬ (i1.toInt = (0 : Int))))) X53 (pc' := 315) at_293 (by decide) (fun q => absurd (show ¬ ((Own.dz t2 = Own.dz 0) ↔ (¬ (¬ (i0.toInt = (0 : Int))) ∨ (¬ (¬ (i1.toInt = (0 : Int)))))) from q) (show ¬ (¬ ((Own.dz t2 = Own.dz 0) ↔ (¬ (¬ (i0.toInt = (0 : Int))) ∨ (¬ (¬ (i1.toInt = (0 : Int))))))) from fun z => z (by rw [Own.dz_0]; exact own_x2a KK k2))) (fun _ => ?_)
      refine Own.iload X53 at_296 rfl ?_
      refine Own.iload X53 at_298 rfl ?_
      refine Own.icmpneB (P := Own.dz t3_101_34 = Own.dz 0) (P' := ¬ ((1 : Int) < (((Own.bo (¬ (i0.toInt = (0 : Int)))) + (Own.bo (¬ (i1.toInt = (0 : Int))))) + (Own.bo (¬ (i2.toInt = (0 : Int))))).toInt)) X53 (pc' := 315) at_300 (by decide) (fun q => absurd (show ¬ ((Own.dz t3_101_34 = Own.dz 0) ↔ (¬ ((1 : Int) < (((Own.bo (¬ (i0.toInt = (0 : Int)))) + (Own.bo (¬ (i1.toInt = (0 : Int))))) + (Own.bo (¬ (i2.toInt = (0 : Int))))).toInt))) from q) (show ¬ (¬ ((Own.dz t3_101_34 = Own.dz 0) ↔ (¬ ((1 : Int) < (((Own.bo (¬ (i0.toInt = (0 : Int)))) + (Own.bo (¬ (i1.toInt = (0 : Int))))) + (Own.bo (¬ (i2.toInt = (0 : Int))))).toInt)))) from fun z => z (by rw [Own.dz_0]; exact g2.trans (not_congr (own_cnt _ _ _).symm)))) (fun _ => ?_)
      refine Own.dload X53 at_303 rfl ?_
      refine Own.dload X53 at_305 rfl ?_
      refine Own.dcmpF X53 (pc' := 315) at_307 at_308 (by decide) n_w3_101_34 n_xp (fun q => absurd (show ¬ (Own.dz w3_101_34 = Own.dz xp) from q) (show ¬ (¬ (Own.dz w3_101_34 = Own.dz xp)) from fun z => z (own_end g1 x_xp))) (fun _ => ?_)
      refine Own.iconst X53 (v := 1) at_311 rfl ?_
      refine Own.goto_ X53 (pc' := 316) at_312 (by decide) ?_
      exact Own.retB X53 at_316 (by decide) rfl (by decide) (by decide)
    · refine Own.iloadN X34 at_104 rfl ?_
      obtain ⟨g1, g2, g3, g4⟩ := k3.2 x3
      have g5 := (u3 g2 g3).trans g4
      suffices J105_54 : ∀ (z113_54 : Int32), z113_54 = Own.bo (¬ (i0.toInt = (0 : Int))) → Own.Go p e below s n0 (fun v _ => v = some (.int 1)) 24 128 (T34.setTop (mkF m 113 #[.val (.int i0), .val (.int i1), .val (.int i2), .val (.int i3), .val (.double d5), .second, .val (.double d9), .second, .val (.double d17), .second, .val (.int (0 : Int32)), .val (.double d5), .second, .val (.double d17), .second, .val (.ref ts), .unset, .unset, .unset, .unset, .unset, .unset, .unset, .unset, .unset, .unset, .unset, .unset, .unset, .unset, .unset] [.int z113_54])) by
        refine Own.iff_ X34 (pc' := 112) at_105 (by decide) (fun (h105 : i0.toInt = (0 : Int)) => ?_) (fun (h105 : ¬ (i0.toInt = (0 : Int))) => ?_)
        · refine Own.iconst X34 (v := 0) at_112 rfl ?_
          exact J105_54 _ (Own.bo_f (fun q => q h105))
        · refine Own.iconst X34 (v := 1) at_108 rfl ?_
          refine Own.goto_ X34 (pc' := 113) at_109 (by decide) ?_
          exact J105_54 _ (Own.bo_t (h105))
      intro z113_54 e_z113_54
      subst e_z113_54
      refine Own.istore X34 at_113 (l' := #[.val (.int i0), .val (.int i1), .val (.int i2), .val (.int i3), .val (.double d5), .second, .val (.double d9), .second, .val (.double d17), .second, .val (.int (0 : Int32)), .val (.double d5), .second, .val (.double d17), .second, .val (.ref ts), .val (.int (Own.bo (¬ (i0.toInt = (0 : Int))))), .unset, .unset, .unset, .unset, .unset, .unset, .unset, .unset, .unset, .unset, .unset, .unset, .unset, .unset]) rfl ?_
      refine Own.iloadN X34 at_115 rfl ?_
      suffices J116_55 : ∀ (z124_55 : Int32), z124_55 = Own.bo (¬ (i1.toInt = (0 : Int))) → Own.Go p e below s n0 (fun v _ => v = some (.int 1)) 24 128 (T34.setTop (mkF m 124 #[.val (.int i0), .val (.int i1), .val (.int i2), .val (.int i3), .val (.double d5), .second, .val (.double d9), .second, .val (.double d17), .second, .val (.int (0 : Int32)), .val (.double d5), .second, .val (.double d17), .second, .val (.ref ts), .val (.int (Own.bo (¬ (i0.toInt = (0 : Int))))), .unset, .unset, .unset, .unset, .unset, .unset, .unset, .unset, .unset, .unset, .unset, .unset, .unset, .unset] [.int z124_55])) by
        refine Own.iff_ X34 (pc' := 123) at_116 (by decide) (fun (h116 : i1.toInt = (0 : Int)) => ?_) (fun (h116 : ¬ (i1.toInt = (0 : Int))) => ?_)
        · refine Own.iconst X34 (v := 0) at_123 rfl ?_
          exact J116_55 _ (Own.bo_f (fun q => q h116))
        · refine Own.iconst X34 (v := 1) at_119 rfl ?_
          refine Own.goto_ X34 (pc' := 124) at_120 (by decide) ?_
          exact J116_55 _ (Own.bo_t (h116))
      intro z124_55 e_z124_55
      subst e_z124_55
      refine Own.istore X34 at_124 (l' := #[.val (.int i0), .val (.int i1), .val (.int i2), .val (.int i3), .val (.double d5), .second, .val (.double d9), .second, .val (.double d17), .second, .val (.int (0 : Int32)), .val (.double d5), .second, .val (.double d17), .second, .val (.ref ts), .val (.int (Own.bo (¬ (i0.toInt = (0 : Int))))), .val (.int (Own.bo (¬ (i1.toInt = (0 : Int))))), .unset, .unset, .unset, .unset, .unset, .unset, .unset, .unset, .unset, .unset, .unset, .unset, .unset]) rfl ?_
      refine Own.iloadN X34 at_126 rfl ?_
      suffices J127_56 : ∀ (z135_56 : Int32), z135_56 = Own.bo (¬ (i2.toInt = (0 : Int))) → Own.Go p e below s n0 (fun v _ => v = some (.int 1)) 24 128 (T34.setTop (mkF m 135 #[.val (.int i0), .val (.int i1), .val (.int i2), .val (.int i3), .val (.double d5), .second, .val (.double d9), .second, .val (.double d17), .second, .val (.int (0 : Int32)), .val (.double d5), .second, .val (.double d17), .second, .val (.ref ts), .val (.int (Own.bo (¬ (i0.toInt = (0 : Int))))), .val (.int (Own.bo (¬ (i1.toInt = (0 : Int))))), .unset, .unset, .unset, .unset, .unset, .unset, .unset, .unset, .unset, .unset, .unset, .unset, .unset] [.int z135_56])) by
        refine Own.iff_ X34 (pc' := 134) at_127 (by decide) (fun (h127 : i2.toInt = (0 : Int)) => ?_) (fun (h127 : ¬ (i2.toInt = (0 : Int))) => ?_)
        · refine Own.iconst X34 (v := 0) at_134 rfl ?_
          exact J127_56 _ (Own.bo_f (fun q => q h127))
        · refine Own.iconst X34 (v := 1) at_130 rfl ?_
          refine Own.goto_ X34 (pc' := 135) at_131 (by decide) ?_
          exact J127_56 _ (Own.bo_t (h127))
      intro z135_56 e_z135_56
      subst e_z135_56
      refine Own.istore X34 at_135 (l' := #[.val (.int i0), .val (.int i1), .val (.int i2), .val (.int i3), .val (.double d5), .second, .val (.double d9), .second, .val (.double d17), .second, .val (.int (0 : Int32)), .val (.double d5), .second, .val (.double d17), .second, .val (.ref ts), .val (.int (Own.bo (¬ (i0.toInt = (0 : Int))))), .val (.int (Own.bo (¬ (i1.toInt = (0 : Int))))), .val (.int (Own.bo (¬ (i2.toInt = (0 : Int))))), .unset, .unset, .unset, .unset, .unset, .unset, .unset, .unset, .unset, .unset, .unset, .unset]) rfl ?_
      refine Own.iload X34 at_137 rfl ?_
      refine Own.iff_ X34 (pc' := 147) at_139 (by decide) (fun _ => ?_) (fun q => absurd (show (0 : Int) = (0 : Int) from by decide) q)
      refine Own.iload X34 at_147 rfl ?_
      refine Own.istore X34 at_149 (l' := #[.val (.int i0), .val (.int i1), .val (.int i2), .val (.int i3), .val (.double d5), .second, .val (.double d9), .second, .val (.double d17), .second, .val (.int (0 : Int32)), .val (.double d5), .second, .val (.double d17), .second, .val (.ref ts), .val (.int (Own.bo (¬ (i0.toInt = (0 : Int))))), .val (.int (Own.bo (¬ (i1.toInt = (0 : Int))))), .val (.int (Own.bo (¬ (i2.toInt = (0 : Int))))), .val (.int (Own.bo (¬ (i0.toInt = (0 : Int))))), .unset, .unset, .unset, .unset, .unset, .unset, .unset, .unset, .unset, .unset, .unset]) rfl ?_
      refine Own.iload X34 at_151 rfl ?_
      suffices J153_57 : ∀ (z161_57 : Int32), z161_57 = Own.bo (¬ (i0.toInt = (0 : Int))) → Own.Go p e below s n0 (fun v _ => v = some (.int 1)) 24 128 (T34.setTop (mkF m 161 #[.val (.int i0), .val (.int i1), .val (.int i2), .val (.int i3), .val (.double d5), .second, .val (.double d9), .second, .val (.double d17), .second, .val (.int (0 : Int32)), .val (.double d5), .second, .val (.double d17), .second, .val (.ref ts), .val (.int (Own.bo (¬ (i0.toInt = (0 : Int))))), .val (.int (Own.bo (¬ (i1.toInt = (0 : Int))))), .val (.int (Own.bo (¬ (i2.toInt = (0 : Int))))), .val (.int (Own.bo (¬ (i0.toInt = (0 : Int))))), .unset, .unset, .unset, .unset, .unset, .unset, .unset, .unset, .unset, .unset, .unset] [.int z161_57])) by
        refine Own.ifeqB X34 (pc' := 160) at_153 (by decide) (fun (h153 : ¬ (¬ (i0.toInt = (0 : Int)))) => ?_) (fun (h153 : ¬ (i0.toInt = (0 : Int))) => ?_)
        · refine Own.iconst X34 (v := 0) at_160 rfl ?_
          exact J153_57 _ (Own.bo_f (h153))
        · refine Own.iconst X34 (v := 1) at_156 rfl ?_
          refine Own.goto_ X34 (pc' := 161) at_157 (by decide) ?_
          exact J153_57 _ (Own.bo_t (h153))
      intro z161_57 e_z161_57
      subst e_z161_57
      refine Own.iload X34 at_161 rfl ?_
      suffices J163_58 : ∀ (z171_58 : Int32), z171_58 = Own.bo (¬ (i1.toInt = (0 : Int))) → Own.Go p e below s n0 (fun v _ => v = some (.int 1)) 24 128 (T34.setTop (mkF m 171 #[.val (.int i0), .val (.int i1), .val (.int i2), .val (.int i3), .val (.double d5), .second, .val (.double d9), .second, .val (.double d17), .second, .val (.int (0 : Int32)), .val (.double d5), .second, .val (.double d17), .second, .val (.ref ts), .val (.int (Own.bo (¬ (i0.toInt = (0 : Int))))), .val (.int (Own.bo (¬ (i1.toInt = (0 : Int))))), .val (.int (Own.bo (¬ (i2.toInt = (0 : Int))))), .val (.int (Own.bo (¬ (i0.toInt = (0 : Int))))), .unset, .unset, .unset, .unset, .unset, .unset, .unset, .unset, .unset, .unset, .unset] [.int z171_58, .int (Own.bo (¬ (i0.toInt = (0 : Int))))])) by
        refine Own.ifeqB X34 (pc' := 170) at_163 (by decide) (fun (h163 : ¬ (¬ (i1.toInt = (0 : Int)))) => ?_) (fun (h163 : ¬ (i1.toInt = (0 : Int))) => ?_)
        · refine Own.iconst X34 (v := 0) at_170 rfl ?_
          exact J163_58 _ (Own.bo_f (h163))
        · refine Own.iconst X34 (v := 1) at_166 rfl ?_
          refine Own.goto_ X34 (pc' := 171) at_167 (by decide) ?_
          exact J163_58 _ (Own.bo_t (h163))
      intro z171_58 e_z171_58
      subst e_z171_58
      refine Own.iadd X34 at_171 ?_
      refine Own.iload X34 at_172 rfl ?_
      suffices J174_59 : ∀ (z182_59 : Int32), z182_59 = Own.bo (¬ (i2.toInt = (0 : Int))) → Own.Go p e below s n0 (fun v _ => v = some (.int 1)) 24 128 (T34.setTop (mkF m 182 #[.val (.int i0), .val (.int i1), .val (.int i2), .val (.int i3), .val (.double d5), .second, .val (.double d9), .second, .val (.double d17), .second, .val (.int (0 : Int32)), .val (.double d5), .second, .val (.double d17), .second, .val (.ref ts), .val (.int (Own.bo (¬ (i0.toInt = (0 : Int))))), .val (.int (Own.bo (¬ (i1.toInt = (0 : Int))))), .val (.int (Own.bo (¬ (i2.toInt = (0 : Int))))), .val (.int (Own.bo (¬ (i0.toInt = (0 : Int))))), .unset, .unset, .unset, .unset, .unset, .unset, .unset, .unset, .unset, .unset, .unset] [.int z182_59, .int ((Own.bo (¬ (i0.toInt = (0 : Int)))) + (Own.bo (¬ (i1.toInt = (0 : Int)))))])) by
        refine Own.ifeqB X34 (pc' := 181) at_174 (by decide) (fun (h174 : ¬ (¬ (i2.toInt = (0 : Int)))) => ?_) (fun (h174 : ¬ (i2.toInt = (0 : Int))) => ?_)
        · refine Own.iconst X34 (v := 0) at_181 rfl ?_
          exact J174_59 _ (Own.bo_f (h174))
        · refine Own.iconst X34 (v := 1) at_177 rfl ?_
          refine Own.goto_ X34 (pc' := 182) at_178 (by decide) ?_
          exact J174_59 _ (Own.bo_t (h174))
      intro z182_59 e_z182_59
      subst e_z182_59
      refine Own.iadd X34 at_182 ?_
      refine Own.istore X34 at_183 (l' := #[.val (.int i0), .val (.int i1), .val (.int i2), .val (.int i3), .val (.double d5), .second, .val (.double d9), .second, .val (.double d17), .second, .val (.int (0 : Int32)), .val (.double d5), .second, .val (.double d17), .second, .val (.ref ts), .val (.int (Own.bo (¬ (i0.toInt = (0 : Int))))), .val (.int (Own.bo (¬ (i1.toInt = (0 : Int))))), .val (.int (Own.bo (¬ (i2.toInt = (0 : Int))))), .val (.int (Own.bo (¬ (i0.toInt = (0 : Int))))), .val (.int (((Own.bo (¬ (i0.toInt = (0 : Int)))) + (Own.bo (¬ (i1.toInt = (0 : Int))))) + (Own.bo (¬ (i2.toInt = (0 : Int)))))), .unset, .unset, .unset, .unset, .unset, .unset, .unset, .unset, .unset, .unset]) rfl ?_
      refine Own.iload X34 at_185 rfl ?_
      suffices J187_60 : ∀ (z200_60 : Int32), z200_60 = Own.bo (¬ (¬ (i0.toInt = (0 : Int))) ∨ (¬ (¬ (i1.toInt = (0 : Int))))) → Own.Go p e below s n0 (fun v _ => v = some (.int 1)) 24 128 (T34.setTop (mkF m 200 #[.val (.int i0), .val (.int i1), .val (.int i2), .val (.int i3), .val (.double d5), .second, .val (.double d9), .second, .val (.double d17), .second, .val (.int (0 : Int32)), .val (.double d5), .second, .val (.double d17), .second, .val (.ref ts), .val (.int (Own.bo (¬ (i0.toInt = (0 : Int))))), .val (.int (Own.bo (¬ (i1.toInt = (0 : Int))))), .val (.int (Own.bo (¬ (i2.toInt = (0 : Int))))), .val (.int (Own.bo (¬ (i0.toInt = (0 : Int))))), .val (.int (((Own.bo (¬ (i0.toInt = (0 : Int)))) + (Own.bo (¬ (i1.toInt = (0 : Int))))) + (Own.bo (¬ (i2.toInt = (0 : Int)))))), .unset, .unset, .unset, .unset, .unset, .unset, .unset, .unset, .unset, .unset] [.int z200_60])) by
        refine Own.ifeqB X34 (pc' := 195) at_187 (by decide) (fun (h187 : ¬ (¬ (i0.toInt = (0 : Int)))) => ?_) (fun (h187 : ¬ (i0.toInt = (0 : Int))) => ?_)
        · refine Own.iconst X34 (v := 1) at_195 rfl ?_
          refine Own.goto_ X34 (pc' := 200) at_196 (by decide) ?_
          exact J187_60 _ (Own.bo_t (Or.inl h187))
        · refine Own.iload X34 at_190 rfl ?_
          refine Own.ifneB X34 (pc' := 199) at_192 (by decide) (fun (h192 : ¬ (i1.toInt = (0 : Int))) => ?_) (fun (h192 : ¬ (¬ (i1.toInt = (0 : Int)))) => ?_)
          · refine Own.iconst X34 (v := 0) at_199 rfl ?_
            exact J187_60 _ (Own.bo_f (fun q => q.elim (fun z => z h187) (fun q => q h192)))
          · refine Own.iconst X34 (v := 1) at_195 rfl ?_
            refine Own.goto_ X34 (pc' := 200) at_196 (by decide) ?_
            exact J187_60 _ (Own.bo_t (Or.inr (h192)))
      intro z200_60 e_z200_60
      subst e_z200_60
      refine Own.istore X34 at_200 (l' := #[.val (.int i0), .val (.int i1), .val (.int i2), .val (.int i3), .val (.double d5), .second, .val (.double d9), .second, .val (.double d17), .second, .val (.int (0 : Int32)), .val (.double d5), .second, .val (.double d17), .second, .val (.ref ts), .val (.int (Own.bo (¬ (i0.toInt = (0 : Int))))), .val (.int (Own.bo (¬ (i1.toInt = (0 : Int))))), .val (.int (Own.bo (¬ (i2.toInt = (0 : Int))))), .val (.int (Own.bo (¬ (i0.toInt = (0 : Int))))), .val (.int (((Own.bo (¬ (i0.toInt = (0 : Int)))) + (Own.bo (¬ (i1.toInt = (0 : Int))))) + (Own.bo (¬ (i2.toInt = (0 : Int)))))), .val (.int (Own.bo (¬ (¬ (i0.toInt = (0 : Int))) ∨ (¬ (¬ (i1.toInt = (0 : Int))))))), .unset, .unset, .unset, .unset, .unset, .unset, .unset, .unset, .unset]) rfl ?_
      refine Own.iload X34 at_202 rfl ?_
      refine Own.iconst X34 (v := 1) at_204 rfl ?_
      suffices J205_61 : ∀ (z213_61 : Int32), z213_61 = Own.bo (¬ ((1 : Int) < (((Own.bo (¬ (i0.toInt = (0 : Int)))) + (Own.bo (¬ (i1.toInt = (0 : Int))))) + (Own.bo (¬ (i2.toInt = (0 : Int))))).toInt)) → Own.Go p e below s n0 (fun v _ => v = some (.int 1)) 24 128 (T34.setTop (mkF m 213 #[.val (.int i0), .val (.int i1), .val (.int i2), .val (.int i3), .val (.double d5), .second, .val (.double d9), .second, .val (.double d17), .second, .val (.int (0 : Int32)), .val (.double d5), .second, .val (.double d17), .second, .val (.ref ts), .val (.int (Own.bo (¬ (i0.toInt = (0 : Int))))), .val (.int (Own.bo (¬ (i1.toInt = (0 : Int))))), .val (.int (Own.bo (¬ (i2.toInt = (0 : Int))))), .val (.int (Own.bo (¬ (i0.toInt = (0 : Int))))), .val (.int (((Own.bo (¬ (i0.toInt = (0 : Int)))) + (Own.bo (¬ (i1.toInt = (0 : Int))))) + (Own.bo (¬ (i2.toInt = (0 : Int)))))), .val (.int (Own.bo (¬ (¬ (i0.toInt = (0 : Int))) ∨ (¬ (¬ (i1.toInt = (0 : Int))))))), .unset, .unset, .unset, .unset, .unset, .unset, .unset, .unset, .unset] [.int z213_61])) by
        refine Own.icmp_ X34 (pc' := 212) at_205 (by decide) (fun (h205 : (1 : Int) < (((Own.bo (¬ (i0.toInt = (0 : Int)))) + (Own.bo (¬ (i1.toInt = (0 : Int))))) + (Own.bo (¬ (i2.toInt = (0 : Int))))).toInt) => ?_) (fun (h205 : ¬ ((1 : Int) < (((Own.bo (¬ (i0.toInt = (0 : Int)))) + (Own.bo (¬ (i1.toInt = (0 : Int))))) + (Own.bo (¬ (i2.toInt = (0 : Int))))).toInt)) => ?_)
        · refine Own.iconst X34 (v := 0) at_212 rfl ?_
          exact J205_61 _ (Own.bo_f (fun q => q h205))
        · refine Own.iconst X34 (v := 1) at_208 rfl ?_
          refine Own.goto_ X34 (pc' := 213) at_209 (by decide) ?_
          exact J205_61 _ (Own.bo_t (h205))
      intro z213_61 e_z213_61
      subst e_z213_61
      refine Own.istore X34 at_213 (l' := #[.val (.int i0), .val (.int i1), .val (.int i2), .val (.int i3), .val (.double d5), .second, .val (.double d9), .second, .val (.double d17), .second, .val (.int (0 : Int32)), .val (.double d5), .second, .val (.double d17), .second, .val (.ref ts), .val (.int (Own.bo (¬ (i0.toInt = (0 : Int))))), .val (.int (Own.bo (¬ (i1.toInt = (0 : Int))))), .val (.int (Own.bo (¬ (i2.toInt = (0 : Int))))), .val (.int (Own.bo (¬ (i0.toInt = (0 : Int))))), .val (.int (((Own.bo (¬ (i0.toInt = (0 : Int)))) + (Own.bo (¬ (i1.toInt = (0 : Int))))) + (Own.bo (¬ (i2.toInt = (0 : Int)))))), .val (.int (Own.bo (¬ (¬ (i0.toInt = (0 : Int))) ∨ (¬ (¬ (i1.toInt = (0 : Int))))))), .val (.int (Own.bo (¬ ((1 : Int) < (((Own.bo (¬ (i0.toInt = (0 : Int)))) + (Own.bo (¬ (i1.toInt = (0 : Int))))) + (Own.bo (¬ (i2.toInt = (0 : Int))))).toInt)))), .unset, .unset, .unset, .unset, .unset, .unset, .unset, .unset]) rfl ?_
      refine Own.iload X34 at_215 rfl ?_
      suffices J217_62 : ∀ (z237_62 : UInt64), z237_62 = (if ¬ (i0.toInt = (0 : Int)) then d5 else (if ¬ (i1.toInt = (0 : Int)) then d9 else d17)) → Own.Go p e below s n0 (fun v _ => v = some (.int 1)) 24 128 (T34.setTop (mkF m 237 #[.val (.int i0), .val (.int i1), .val (.int i2), .val (.int i3), .val (.double d5), .second, .val (.double d9), .second, .val (.double d17), .second, .val (.int (0 : Int32)), .val (.double d5), .second, .val (.double d17), .second, .val (.ref ts), .val (.int (Own.bo (¬ (i0.toInt = (0 : Int))))), .val (.int (Own.bo (¬ (i1.toInt = (0 : Int))))), .val (.int (Own.bo (¬ (i2.toInt = (0 : Int))))), .val (.int (Own.bo (¬ (i0.toInt = (0 : Int))))), .val (.int (((Own.bo (¬ (i0.toInt = (0 : Int)))) + (Own.bo (¬ (i1.toInt = (0 : Int))))) + (Own.bo (¬ (i2.toInt = (0 : Int)))))), .val (.int (Own.bo (¬ (¬ (i0.toInt = (0 : Int))) ∨ (¬ (¬ (i1.toInt = (0 : Int))))))), .val (.int (Own.bo (¬ ((1 : Int) < (((Own.bo (¬ (i0.toInt = (0 : Int)))) + (Own.bo (¬ (i1.toInt = (0 : Int))))) + (Own.bo (¬ (i2.toInt = (0 : Int))))).toInt)))), .unset, .unset, .unset, .unset, .unset, .unset, .unset, .unset] [.double z237_62])) by
        refine Own.ifeqB X34 (pc' := 225) at_217 (by decide) (fun (h217 : ¬ (¬ (i0.toInt = (0 : Int)))) => ?_) (fun (h217 : ¬ (i0.toInt = (0 : Int))) => ?_)
        · refine Own.iload X34 at_225 rfl ?_
          refine Own.ifeqB X34 (pc' := 235) at_227 (by decide) (fun (h227 : ¬ (¬ (i1.toInt = (0 : Int)))) => ?_) (fun (h227 : ¬ (i1.toInt = (0 : Int))) => ?_)
          · refine Own.dload X34 at_235 rfl ?_
            exact J217_62 _ ((if_neg h217).trans (if_neg h227)).symm
          · refine Own.dload X34 at_230 rfl ?_
            refine Own.goto_ X34 (pc' := 237) at_232 (by decide) ?_
            exact J217_62 _ ((if_neg h217).trans (if_pos h227)).symm
        · refine Own.dload X34 at_220 rfl ?_
          refine Own.goto_ X34 (pc' := 237) at_222 (by decide) ?_
          exact J217_62 _ (if_pos h217).symm
      intro xp e_xp
      have n_xp : NoNaN64 xp := by rw [e_xp]; split; assumption; split <;> assumption
      have x_xp : (i0.toInt ≠ 0 → Own.dz xp = Own.dz d5) ∧ (i0.toInt = 0 → i1.toInt ≠ 0 → Own.dz xp = Own.dz d9) ∧ (i0.toInt = 0 → i1.toInt = 0 → Own.dz xp = Own.dz d17) := by rw [e_xp]; exact ⟨fun q => by rw [if_pos q], fun q z => by rw [if_neg (fun w => w q), if_pos z], fun q z => by rw [if_neg (fun w => w q), if_neg (fun w => w z)]⟩
      refine Own.dstore X34 at_237 (l' := #[.val (.int i0), .val (.int i1), .val (.int i2), .val (.int i3), .val (.double d5), .second, .val (.double d9), .second, .val (.double d17), .second, .val (.int (0 : Int32)), .val (.double d5), .second, .val (.double d17), .second, .val (.ref ts), .val (.int (Own.bo (¬ (i0.toInt = (0 : Int))))), .val (.int (Own.bo (¬ (i1.toInt = (0 : Int))))), .val (.int (Own.bo (¬ (i2.toInt = (0 : Int))))), .val (.int (Own.bo (¬ (i0.toInt = (0 : Int))))), .val (.int (((Own.bo (¬ (i0.toInt = (0 : Int)))) + (Own.bo (¬ (i1.toInt = (0 : Int))))) + (Own.bo (¬ (i2.toInt = (0 : Int)))))), .val (.int (Own.bo (¬ (¬ (i0.toInt = (0 : Int))) ∨ (¬ (¬ (i1.toInt = (0 : Int))))))), .val (.int (Own.bo (¬ ((1 : Int) < (((Own.bo (¬ (i0.toInt = (0 : Int)))) + (Own.bo (¬ (i1.toInt = (0 : Int))))) + (Own.bo (¬ (i2.toInt = (0 : Int))))).toInt)))), .val (.double xp), .second, .unset, .unset, .unset, .unset, .unset, .unset]) rfl ?_
      refine Own.aload X34 at_239 rfl rfl ?_
      refine Own.iconst X34 (v := 0) at_241 rfl ?_
      refine Own.callV_ (y := mn_7) (z := mn_7) (a := ts) X34 at_242 (Own.wd hw 43 rfl) (Own.wd hw 44 rfl) (Own.wd hw 46 rfl) (Own.wd hw 45 rfl) rfl (Own.wd hw 4 rfl) (Own.wd hw 47 rfl) (by decide) F35 (rm8_0 l Z a0 hw ts rb_66_7 rc_66_7 k_rb_66_7 k_rc_66_7 0 t1 t2 t3_101_34 (.null) (.null) (.ref ow) h34 n0 Z39 F37 F38 G34_1 G34_2 Own.nn_0 ) (lenOf pd_18 rfl) rfl (argsL := [.int (0 : Int32)]) (rest := []) rfl (W := 0) (Nat.le_of_eq rfl) (by decide) (by decide) (by decide) (by decide) fun T63 h63 v63 X63 q63 => ?_
      obtain ⟨rfl, rfl⟩ := q63
      show Own.Go p e below s n0 _ _ _ (T63.setTop (mkF m 245 _ [.int (Own.bo (Own.dz 0 = Own.dz 0))]))
      refine Own.istore X63 at_245 (l' := #[.val (.int i0), .val (.int i1), .val (.int i2), .val (.int i3), .val (.double d5), .second, .val (.double d9), .second, .val (.double d17), .second, .val (.int (0 : Int32)), .val (.double d5), .second, .val (.double d17), .second, .val (.ref ts), .val (.int (Own.bo (¬ (i0.toInt = (0 : Int))))), .val (.int (Own.bo (¬ (i1.toInt = (0 : Int))))), .val (.int (Own.bo (¬ (i2.toInt = (0 : Int))))), .val (.int (Own.bo (¬ (i0.toInt = (0 : Int))))), .val (.int (((Own.bo (¬ (i0.toInt = (0 : Int)))) + (Own.bo (¬ (i1.toInt = (0 : Int))))) + (Own.bo (¬ (i2.toInt = (0 : Int)))))), .val (.int (Own.bo (¬ (¬ (i0.toInt = (0 : Int))) ∨ (¬ (¬ (i1.toInt = (0 : Int))))))), .val (.int (Own.bo (¬ ((1 : Int) < (((Own.bo (¬ (i0.toInt = (0 : Int)))) + (Own.bo (¬ (i1.toInt = (0 : Int))))) + (Own.bo (¬ (i2.toInt = (0 : Int))))).toInt)))), .val (.double xp), .second, .val (.int (Own.bo (Own.dz 0 = Own.dz 0))), .unset, .unset, .unset, .unset, .unset]) rfl ?_
      refine Own.aload X63 at_247 rfl rfl ?_
      refine Own.iconst X63 (v := 1) at_249 rfl ?_
      refine Own.callV_ (y := mn_7) (z := mn_7) (a := ts) X63 at_250 (Own.wd hw 43 rfl) (Own.wd hw 44 rfl) (Own.wd hw 46 rfl) (Own.wd hw 45 rfl) rfl (Own.wd hw 4 rfl) (Own.wd hw 47 rfl) (by decide) F35 (rm8_1 l Z a0 hw ts rb_66_7 rc_66_7 k_rb_66_7 k_rc_66_7 0 t1 t2 t3_101_34 (.null) (.null) (.ref ow) h34 n0 Z39 F37 F38 G34_1 G34_2 n_t1 ) (lenOf pd_18 rfl) rfl (argsL := [.int (1 : Int32)]) (rest := []) rfl (W := 0) (Nat.le_of_eq rfl) (by decide) (by decide) (by decide) (by decide) fun T64 h64 v64 X64 q64 => ?_
      obtain ⟨rfl, rfl⟩ := q64
      show Own.Go p e below s n0 _ _ _ (T64.setTop (mkF m 253 _ [.int (Own.bo (Own.dz t1 = Own.dz 0))]))
      refine Own.istore X64 at_253 (l' := #[.val (.int i0), .val (.int i1), .val (.int i2), .val (.int i3), .val (.double d5), .second, .val (.double d9), .second, .val (.double d17), .second, .val (.int (0 : Int32)), .val (.double d5), .second, .val (.double d17), .second, .val (.ref ts), .val (.int (Own.bo (¬ (i0.toInt = (0 : Int))))), .val (.int (Own.bo (¬ (i1.toInt = (0 : Int))))), .val (.int (Own.bo (¬ (i2.toInt = (0 : Int))))), .val (.int (Own.bo (¬ (i0.toInt = (0 : Int))))), .val (.int (((Own.bo (¬ (i0.toInt = (0 : Int)))) + (Own.bo (¬ (i1.toInt = (0 : Int))))) + (Own.bo (¬ (i2.toInt = (0 : Int)))))), .val (.int (Own.bo (¬ (¬ (i0.toInt = (0 : Int))) ∨ (¬ (¬ (i1.toInt = (0 : Int))))))), .val (.int (Own.bo (¬ ((1 : Int) < (((Own.bo (¬ (i0.toInt = (0 : Int)))) + (Own.bo (¬ (i1.toInt = (0 : Int))))) + (Own.bo (¬ (i2.toInt = (0 : Int))))).toInt)))), .val (.double xp), .second, .val (.int (Own.bo (Own.dz 0 = Own.dz 0))), .val (.int (Own.bo (Own.dz t1 = Own.dz 0))), .unset, .unset, .unset, .unset]) rfl ?_
      refine Own.aload X64 at_255 rfl rfl ?_
      refine Own.iconst X64 (v := 2) at_257 rfl ?_
      refine Own.callV_ (y := mn_7) (z := mn_7) (a := ts) X64 at_258 (Own.wd hw 43 rfl) (Own.wd hw 44 rfl) (Own.wd hw 46 rfl) (Own.wd hw 45 rfl) rfl (Own.wd hw 4 rfl) (Own.wd hw 47 rfl) (by decide) F35 (rm8_2 l Z a0 hw ts rb_66_7 rc_66_7 k_rb_66_7 k_rc_66_7 0 t1 t2 t3_101_34 (.null) (.null) (.ref ow) h34 n0 Z39 F37 F38 G34_1 G34_2 n_t2 ) (lenOf pd_18 rfl) rfl (argsL := [.int (2 : Int32)]) (rest := []) rfl (W := 0) (Nat.le_of_eq rfl) (by decide) (by decide) (by decide) (by decide) fun T65 h65 v65 X65 q65 => ?_
      obtain ⟨rfl, rfl⟩ := q65
      show Own.Go p e below s n0 _ _ _ (T65.setTop (mkF m 261 _ [.int (Own.bo (Own.dz t2 = Own.dz 0))]))
      refine Own.istore X65 at_261 (l' := #[.val (.int i0), .val (.int i1), .val (.int i2), .val (.int i3), .val (.double d5), .second, .val (.double d9), .second, .val (.double d17), .second, .val (.int (0 : Int32)), .val (.double d5), .second, .val (.double d17), .second, .val (.ref ts), .val (.int (Own.bo (¬ (i0.toInt = (0 : Int))))), .val (.int (Own.bo (¬ (i1.toInt = (0 : Int))))), .val (.int (Own.bo (¬ (i2.toInt = (0 : Int))))), .val (.int (Own.bo (¬ (i0.toInt = (0 : Int))))), .val (.int (((Own.bo (¬ (i0.toInt = (0 : Int)))) + (Own.bo (¬ (i1.toInt = (0 : Int))))) + (Own.bo (¬ (i2.toInt = (0 : Int)))))), .val (.int (Own.bo (¬ (¬ (i0.toInt = (0 : Int))) ∨ (¬ (¬ (i1.toInt = (0 : Int))))))), .val (.int (Own.bo (¬ ((1 : Int) < (((Own.bo (¬ (i0.toInt = (0 : Int)))) + (Own.bo (¬ (i1.toInt = (0 : Int))))) + (Own.bo (¬ (i2.toInt = (0 : Int))))).toInt)))), .val (.double xp), .second, .val (.int (Own.bo (Own.dz 0 = Own.dz 0))), .val (.int (Own.bo (Own.dz t1 = Own.dz 0))), .val (.int (Own.bo (Own.dz t2 = Own.dz 0))), .unset, .unset, .unset]) rfl ?_
      refine Own.aload X65 at_263 rfl rfl ?_
      refine Own.iconst X65 (v := 3) at_265 rfl ?_
      refine Own.callV_ (y := mn_7) (z := mn_7) (a := ts) X65 at_266 (Own.wd hw 43 rfl) (Own.wd hw 44 rfl) (Own.wd hw 46 rfl) (Own.wd hw 45 rfl) rfl (Own.wd hw 4 rfl) (Own.wd hw 47 rfl) (by decide) F35 (rm8_3r l Z a0 hw ts rb_66_7 rc_66_7 k_rb_66_7 k_rc_66_7 0 t1 t2 t3_101_34 (.null) (.null) (.null) ow h34 n0 Z39 F37 F38 G34_1 G34_2 n_t3_101_34 ) (lenOf pd_18 rfl) rfl (argsL := [.int (3 : Int32)]) (rest := []) rfl (W := 0) (Nat.le_of_eq rfl) (by decide) (by decide) (by decide) (by decide) fun T66 h66 v66 X66 q66 => ?_
      obtain ⟨rfl, rfl⟩ := q66
      show Own.Go p e below s n0 _ _ _ (T66.setTop (mkF m 269 _ [.int (0 : Int32)]))
      refine Own.istore X66 at_269 (l' := #[.val (.int i0), .val (.int i1), .val (.int i2), .val (.int i3), .val (.double d5), .second, .val (.double d9), .second, .val (.double d17), .second, .val (.int (0 : Int32)), .val (.double d5), .second, .val (.double d17), .second, .val (.ref ts), .val (.int (Own.bo (¬ (i0.toInt = (0 : Int))))), .val (.int (Own.bo (¬ (i1.toInt = (0 : Int))))), .val (.int (Own.bo (¬ (i2.toInt = (0 : Int))))), .val (.int (Own.bo (¬ (i0.toInt = (0 : Int))))), .val (.int (((Own.bo (¬ (i0.toInt = (0 : Int)))) + (Own.bo (¬ (i1.toInt = (0 : Int))))) + (Own.bo (¬ (i2.toInt = (0 : Int)))))), .val (.int (Own.bo (¬ (¬ (i0.toInt = (0 : Int))) ∨ (¬ (¬ (i1.toInt = (0 : Int))))))), .val (.int (Own.bo (¬ ((1 : Int) < (((Own.bo (¬ (i0.toInt = (0 : Int)))) + (Own.bo (¬ (i1.toInt = (0 : Int))))) + (Own.bo (¬ (i2.toInt = (0 : Int))))).toInt)))), .val (.double xp), .second, .val (.int (Own.bo (Own.dz 0 = Own.dz 0))), .val (.int (Own.bo (Own.dz t1 = Own.dz 0))), .val (.int (Own.bo (Own.dz t2 = Own.dz 0))), .val (.int (0 : Int32)), .unset, .unset]) rfl ?_
      refine Own.aload X66 at_271 rfl rfl ?_
      refine Own.iconst X66 (v := 3) at_273 rfl ?_
      refine Own.callV_ (y := mn_6) (z := mn_6) (a := ts) X66 at_274 (Own.wd hw 48 rfl) (Own.wd hw 49 rfl) (Own.wd hw 51 rfl) (Own.wd hw 50 rfl) rfl (Own.wd hw 4 rfl) (Own.wd hw 52 rfl) (by decide) F35 (rm9_3 l Z a0 hw ts ra_66_7 k_ra_66_7 0 v1 v2 w3_101_34 h34 n0 Z39 F36 G34_0 ) (lenOf pd_19 rfl) rfl (argsL := [.int (3 : Int32)]) (rest := []) rfl (W := 0) (Nat.le_of_eq rfl) (by decide) (by decide) (by decide) (by decide) fun T67 h67 v67 X67 q67 => ?_
      obtain ⟨rfl, rfl⟩ := q67
      show Own.Go p e below s n0 _ _ _ (T67.setTop (mkF m 277 _ [.double w3_101_34]))
      refine Own.dstore X67 at_277 (l' := #[.val (.int i0), .val (.int i1), .val (.int i2), .val (.int i3), .val (.double d5), .second, .val (.double d9), .second, .val (.double d17), .second, .val (.int (0 : Int32)), .val (.double d5), .second, .val (.double d17), .second, .val (.ref ts), .val (.int (Own.bo (¬ (i0.toInt = (0 : Int))))), .val (.int (Own.bo (¬ (i1.toInt = (0 : Int))))), .val (.int (Own.bo (¬ (i2.toInt = (0 : Int))))), .val (.int (Own.bo (¬ (i0.toInt = (0 : Int))))), .val (.int (((Own.bo (¬ (i0.toInt = (0 : Int)))) + (Own.bo (¬ (i1.toInt = (0 : Int))))) + (Own.bo (¬ (i2.toInt = (0 : Int)))))), .val (.int (Own.bo (¬ (¬ (i0.toInt = (0 : Int))) ∨ (¬ (¬ (i1.toInt = (0 : Int))))))), .val (.int (Own.bo (¬ ((1 : Int) < (((Own.bo (¬ (i0.toInt = (0 : Int)))) + (Own.bo (¬ (i1.toInt = (0 : Int))))) + (Own.bo (¬ (i2.toInt = (0 : Int))))).toInt)))), .val (.double xp), .second, .val (.int (Own.bo (Own.dz 0 = Own.dz 0))), .val (.int (Own.bo (Own.dz t1 = Own.dz 0))), .val (.int (Own.bo (Own.dz t2 = Own.dz 0))), .val (.int (0 : Int32)), .val (.double w3_101_34), .second]) rfl ?_
      refine Own.iload X67 at_279 rfl ?_
      refine Own.ifeqB X67 (pc' := 315) at_281 (by decide) (fun q => absurd (show ¬ (Own.dz 0 = Own.dz 0) from q) (show ¬ (¬ (Own.dz 0 = Own.dz 0)) from fun z => z (rfl))) (fun _ => ?_)
      refine Own.iload X67 at_284 rfl ?_
      refine Own.ifeqB X67 (pc' := 315) at_286 (by decide) (fun q => absurd (show ¬ (Own.dz t1 = Own.dz 0) from q) (show ¬ (¬ (Own.dz t1 = Own.dz 0)) from fun z => z (z_t1.trans Own.dz_0.symm))) (fun _ => ?_)
      refine Own.iload X67 at_289 rfl ?_
      refine Own.iload X67 at_291 rfl ?_
      refine Own.icmpneB (P := Own.dz t2 = Own.dz 0) (P' := ¬ (¬ (i0.toInt = (0 : Int))) ∨ (¬ (¬ (i1.toInt = (0 : Int))))) X67 (pc' := 315) at_293 (by decide) (fun q => absurd (show ¬ ((Own.dz t2 = Own.dz 0) ↔ (¬ (¬ (i0.toInt = (0 : Int))) ∨ (¬ (¬ (i1.toInt = (0 : Int)))))) from q) (show ¬ (¬ ((Own.dz t2 = Own.dz 0) ↔ (¬ (¬ (i0.toInt = (0 : Int))) ∨ (¬ (¬ (i1.toInt = (0 : Int))))))) from fun z => z (by rw [Own.dz_0]; exact own_x2a KK k2))) (fun _ => ?_)
      refine Own.iload X67 at_296 rfl ?_
      refine Own.iload X67 at_298 rfl ?_
      refine Own.icmpneB (P := False) (P' := ¬ ((1 : Int) < (((Own.bo (¬ (i0.toInt = (0 : Int)))) + (Own.bo (¬ (i1.toInt = (0 : Int))))) + (Own.bo (¬ (i2.toInt = (0 : Int))))).toInt)) X67 (pc' := 315) at_300 (by decide) (fun q => absurd (show ¬ ((False) ↔ (¬ ((1 : Int) < (((Own.bo (¬ (i0.toInt = (0 : Int)))) + (Own.bo (¬ (i1.toInt = (0 : Int))))) + (Own.bo (¬ (i2.toInt = (0 : Int))))).toInt))) from q) (show ¬ (¬ ((False) ↔ (¬ ((1 : Int) < (((Own.bo (¬ (i0.toInt = (0 : Int)))) + (Own.bo (¬ (i1.toInt = (0 : Int))))) + (Own.bo (¬ (i2.toInt = (0 : Int))))).toInt)))) from fun z => z (⟨fun q => q.elim, fun q => absurd ((own_cnt _ _ _).mpr (Or.inl ⟨g1.1, g1.2.1⟩)) q⟩))) (fun _ => ?_)
      refine Own.dload X67 at_303 rfl ?_
      refine Own.dload X67 at_305 rfl ?_
      refine Own.dcmpF X67 (pc' := 315) at_307 at_308 (by decide) n_w3_101_34 n_xp (fun q => absurd (show ¬ (Own.dz w3_101_34 = Own.dz xp) from q) (show ¬ (¬ (Own.dz w3_101_34 = Own.dz xp)) from fun z => z (g5.trans (x_xp.1 g1.1).symm))) (fun _ => ?_)
      refine Own.iconst X67 (v := 1) at_311 rfl ?_
      refine Own.goto_ X67 (pc' := 316) at_312 (by decide) ?_
      exact Own.retB X67 at_316 (by decide) rfl (by decide) (by decide)
  · refine Own.iconst X (v := 1) at_26 rfl ?_
    refine Own.goto_ X (pc' := 31) at_27 (by decide) ?_
    refine Own.istore X at_31 (l' := #[.val (.int i0), .val (.int i1), .val (.int i2), .val (.int i3), .val (.double d5), .second, .val (.double d9), .second, .val (.double d17), .second, .val (.int (1 : Int32)), .unset, .unset, .unset, .unset, .unset, .unset, .unset, .unset, .unset, .unset, .unset, .unset, .unset, .unset, .unset, .unset, .unset, .unset, .unset, .unset]) rfl ?_
    refine Own.iload X at_33 rfl ?_
    refine Own.iff_ X (pc' := 43) at_35 (by decide) (fun q => absurd (show (1 : Int) = (0 : Int) from q) (show ¬ ((1 : Int) = (0 : Int)) from by decide)) (fun _ => ?_)
    refine Own.dload X at_38 rfl ?_
    refine Own.goto_ X (pc' := 45) at_40 (by decide) ?_
    refine Own.dstore X at_45 (l' := #[.val (.int i0), .val (.int i1), .val (.int i2), .val (.int i3), .val (.double d5), .second, .val (.double d9), .second, .val (.double d17), .second, .val (.int (1 : Int32)), .val (.double d17), .second, .unset, .unset, .unset, .unset, .unset, .unset, .unset, .unset, .unset, .unset, .unset, .unset, .unset, .unset, .unset, .unset, .unset, .unset]) rfl ?_
    refine Own.iload X at_47 rfl ?_
    refine Own.iff_ X (pc' := 57) at_49 (by decide) (fun q => absurd (show (1 : Int) = (0 : Int) from q) (show ¬ ((1 : Int) = (0 : Int)) from by decide)) (fun _ => ?_)
    refine Own.dload X at_52 rfl ?_
    refine Own.goto_ X (pc' := 59) at_54 (by decide) ?_
    refine Own.dstore X at_59 (l' := #[.val (.int i0), .val (.int i1), .val (.int i2), .val (.int i3), .val (.double d5), .second, .val (.double d9), .second, .val (.double d17), .second, .val (.int (1 : Int32)), .val (.double d17), .second, .val (.double d5), .second, .unset, .unset, .unset, .unset, .unset, .unset, .unset, .unset, .unset, .unset, .unset, .unset, .unset, .unset, .unset, .unset]) rfl ?_
    have KK : own_K i0 i1 i2 d5 d9 d17 := ⟨⟨B_d5, z0_d5, y_d5⟩, ⟨B_d9, (own_mid e_d9).1, (own_mid e_d9).2⟩, ⟨B_d17, z0_d17, y_d17⟩⟩
    refine Own.newO_ X at_61 (Own.wd hw 2 rfl) (Own.wd hw 3 rfl) (Own.wd hw 4 rfl) (by decide) (by decide) fun T68 h68 ts g_ts X68 E68 A68 D68 => ?_
    have fr69 : n0 ≤ ts := Nat.le_trans Z0 (Nat.le_of_eq g_ts.symm)
    have Z70 : n0 ≤ h68.size := Nat.le_trans Z0 E68.1
    have F71 : Fld Z h68 ts "com/example/rainyday/rainyday/ExactSum$TreeSums" "rounded" "[D" (.null) := D68 (Or.inr (Own.wd hw 13 rfl)) (ty := (.array .double)) (by decide)
    have F72 : Fld Z h68 ts "com/example/rainyday/rainyday/ExactSum$TreeSums" "rest" "[D" (.null) := D68 (Or.inr (Own.wd hw 15 rfl)) (ty := (.array .double)) (by decide)
    have F73 : Fld Z h68 ts "com/example/rainyday/rainyday/ExactSum$TreeSums" "wider" "[Lcom/example/rainyday/rainyday/ExactSum;" (.null) := D68 (Or.inr (Own.wd hw 19 rfl)) (ty := (.array (.object "com/example/rainyday/rainyday/ExactSum"))) (by decide)
    refine Own.dup X68 at_64 rfl ?_
    refine Own.iconst X68 (v := 4) at_65 rfl ?_
    refine Own.callI_ (y := mn_4) (a := ts) X68 at_66 rfl (Own.wd hw 5 rfl) (Own.wd hw 6 rfl) (Own.wd hw 4 rfl) (Own.wd hw 7 rfl) (by decide) (rm1 l Z a0 hw ts h68 n0 Z70 A68 F71 F72 F73 fr69 ) (lenOf pd_16 rfl) rfl (argsL := [.int (4 : Int32)]) (rest := [.ref ts]) rfl (W := 1) (Nat.le_of_eq rfl) (by decide) (by decide) (by decide) (by decide) fun T74 h74 v74 X74 q74 => ?_
    obtain ⟨ra_66_74, rb_66_74, rc_66_74, k_ra_66_74, k_rb_66_74, k_rc_66_74, rfl, K74, B74_0, B74_1, B74_2, U74_0, U74_1, U74_2, G74_0, G74_1, G74_2, G74_3, G74_4, G74_5, Ov⟩ := q74
    have F75 := A68.keep K74
    have Z76 : n0 ≤ h74.size := Nat.le_trans Z70 K74.1
    have ne77 : ts ≠ ra_66_74 := Nat.ne_of_lt (Nat.lt_of_lt_of_le A68.lt B74_0)
    have fr78 : n0 ≤ ra_66_74 := Nat.le_trans Z70 B74_0
    have ne79 : ts ≠ rb_66_74 := Nat.ne_of_lt (Nat.lt_of_lt_of_le A68.lt B74_1)
    have fr80 : n0 ≤ rb_66_74 := Nat.le_trans Z70 B74_1
    have ne81 : ts ≠ rc_66_74 := Nat.ne_of_lt (Nat.lt_of_lt_of_le A68.lt B74_2)
    have fr82 : n0 ≤ rc_66_74 := Nat.le_trans Z70 B74_2
    show Own.Go p e below s n0 _ _ _ (T74.setTop (mkF m 69 _ [.ref ts]))
    refine Own.astore X74 at_69 rfl (l' := #[.val (.int i0), .val (.int i1), .val (.int i2), .val (.int i3), .val (.double d5), .second, .val (.double d9), .second, .val (.double d17), .second, .val (.int (1 : Int32)), .val (.double d17), .second, .val (.double d5), .second, .val (.ref ts), .unset, .unset, .unset, .unset, .unset, .unset, .unset, .unset, .unset, .unset, .unset, .unset, .unset, .unset, .unset]) rfl ?_
    refine Own.aload X74 at_71 rfl rfl ?_
    refine Own.iconst X74 (v := 0) at_73 rfl ?_
    refine Own.callV_ (y := mn_5) (z := mn_5) (a := ts) X74 at_74 (Own.wd hw 20 rfl) (Own.wd hw 21 rfl) (Own.wd hw 23 rfl) (Own.wd hw 22 rfl) rfl (Own.wd hw 4 rfl) (Own.wd hw 24 rfl) (by decide) F75 (rm3_0 l Z a0 hw ts ra_66_74 rb_66_74 rc_66_74 k_ra_66_74 k_rb_66_74 k_rc_66_74 0 0 0 0 0 0 0 0 (.null) (.null) (.null) (.null) h74 n0 Z76 G74_0 G74_1 G74_2 G74_3 G74_4 G74_5 ne77 ne79 ne81 U74_0 U74_1 U74_2 fr78 fr80 fr82 ) (lenOf pd_16 rfl) rfl (argsL := [.int (0 : Int32)]) (rest := []) rfl (W := 0) (Nat.le_of_eq rfl) (by decide) (by decide) (by decide) (by decide) fun T83 h83 v83 X83 q83 => ?_
    obtain ⟨rfl, K83, G83_0, G83_1, G83_2⟩ := q83
    have F84 := F75.keep K83
    have F85 := G74_0.keep K83 (ninS ne77 (ninS ne79 (ninS ne81 nin0)))
    have F86 := G74_1.keep K83 (ninS ne77 (ninS ne79 (ninS ne81 nin0)))
    have F87 := G74_2.keep K83 (ninS ne77 (ninS ne79 (ninS ne81 nin0)))
    have Z88 : n0 ≤ h83.size := Nat.le_trans Z76 K83.1
    show Own.Go p e below s n0 _ _ _ (T83.setTop (mkF m 77 _ []))
    refine Own.aload X83 at_77 rfl rfl ?_
    refine Own.iconst X83 (v := 1) at_79 rfl ?_
    refine Own.iconst X83 (v := 0) at_80 rfl ?_
    refine Own.dload X83 at_81 rfl ?_
    refine Own.callV_ (y := mn_13) (z := mn_13) (a := ts) X83 at_83 (Own.wd hw 25 rfl) (Own.wd hw 26 rfl) (Own.wd hw 28 rfl) (Own.wd hw 27 rfl) rfl (Own.wd hw 4 rfl) (Own.wd hw 29 rfl) (by decide) F84 (rm4_a l Z a0 hw ts d17 ra_66_74 rb_66_74 rc_66_74 k_ra_66_74 k_rb_66_74 k_rc_66_74 0 0 0 0 0 0 0 0 h83 n0 Z88 F85 F86 F87 G83_0 G83_1 G83_2 ne77 ne79 ne81 U74_0 U74_1 U74_2 fr78 fr80 fr82 (B_d17.mono (by decide)) (B_0.mono (by decide)) (B_0.mono (by decide)) Own.dz_0) (lenOf pd_17 rfl) rfl (argsL := [.int (1 : Int32), .int (0 : Int32), .double d17]) (rest := []) rfl (W := 0) (Nat.le_of_eq rfl) (by decide) (by decide) (by decide) (by decide) fun T89 h89 v89 X89 q89 => ?_
    obtain ⟨rfl, K89, G89_0, G89_1, G89_2⟩ := q89
    have F90 := F84.keep K89
    have F91 := F85.keep K89 (ninS ne77 (ninS ne79 (ninS ne81 nin0)))
    have F92 := F86.keep K89 (ninS ne77 (ninS ne79 (ninS ne81 nin0)))
    have F93 := F87.keep K89 (ninS ne77 (ninS ne79 (ninS ne81 nin0)))
    have Z94 : n0 ≤ h89.size := Nat.le_trans Z88 K89.1
    show Own.Go p e below s n0 _ _ _ (T89.setTop (mkF m 86 _ []))
    obtain ⟨v1, e_v1⟩ : ∃ v, (Own.VV d17 0 0) = v := ⟨_, rfl⟩
    rw [e_v1] at G89_0
    have B_v1 : Own.Bp v1 1238 := e_v1 ▸ Own.VV_bp (j := 1230) (B_d17.mono (by decide)) (B_0.mono (by decide)) (B_0.mono (by decide)) (by decide)
    have n_v1 := B_v1.nn
    have f_v1 := B_v1.1
    obtain ⟨t1, e_t1⟩ : ∃ v, (Own.RR d17 0 0) = v := ⟨_, rfl⟩
    rw [e_t1] at G89_1
    have B_t1 : Own.Bp t1 1242 := e_t1 ▸ Own.RR_bp (j := 1230) (B_d17.mono (by decide)) (B_0.mono (by decide)) (B_0.mono (by decide)) (by decide)
    have n_t1 := B_t1.nn
    have f_t1 := B_t1.1
    have z_t1 : Own.dz t1 = 0 := by rw [← e_t1, (Own.ext0_b (ad := d17) (B_d17.mono (by decide)) (B_0.mono (by decide)) (B_0.mono (by decide)) Own.dz_0 (Or.inl Own.dz_0)).2, Own.dz_0]
    have z_v1 : Own.dz v1 = Own.dz d17 := by rw [← e_v1, (Own.ext0_b (ad := d17) (B_d17.mono (by decide)) (B_0.mono (by decide)) (B_0.mono (by decide)) Own.dz_0 (Or.inl Own.dz_0)).1]
    refine Own.aload X89 at_86 rfl rfl ?_
    refine Own.iconst X89 (v := 2) at_88 rfl ?_
    refine Own.iconst X89 (v := 1) at_89 rfl ?_
    refine Own.dload X89 at_90 rfl ?_
    refine Own.callV_ (y := mn_13) (z := mn_13) (a := ts) X89 at_92 (Own.wd hw 25 rfl) (Own.wd hw 26 rfl) (Own.wd hw 28 rfl) (Own.wd hw 27 rfl) rfl (Own.wd hw 4 rfl) (Own.wd hw 29 rfl) (by decide) F90 (rm4_b l Z a0 hw ts d9 ra_66_74 rb_66_74 rc_66_74 k_ra_66_74 k_rb_66_74 k_rc_66_74 0 v1 0 0 0 t1 0 0 h89 n0 Z94 F91 F92 F93 G89_0 G89_1 G89_2 ne77 ne79 ne81 U74_0 U74_1 U74_2 fr78 fr80 fr82 (B_d9.mono (by decide)) (B_t1.mono (by decide)) (B_v1.mono (by decide)) z_t1) (lenOf pd_17 rfl) rfl (argsL := [.int (2 : Int32), .int (1 : Int32), .double d9]) (rest := []) rfl (W := 0) (Nat.le_of_eq rfl) (by decide) (by decide) (by decide) (by decide) fun T95 h95 v95 X95 q95 => ?_
    obtain ⟨rfl, K95, G95_0, G95_1, G95_2⟩ := q95
    have F96 := F90.keep K95
    have F97 := F91.keep K95 (ninS ne77 (ninS ne79 (ninS ne81 nin0)))
    have F98 := F92.keep K95 (ninS ne77 (ninS ne79 (ninS ne81 nin0)))
    have F99 := F93.keep K95 (ninS ne77 (ninS ne79 (ninS ne81 nin0)))
    have Z100 : n0 ≤ h95.size := Nat.le_trans Z94 K95.1
    show Own.Go p e below s n0 _ _ _ (T95.setTop (mkF m 95 _ []))
    obtain ⟨v2, e_v2⟩ : ∃ v, (Own.VV d9 t1 v1) = v := ⟨_, rfl⟩
    rw [e_v2] at G95_0
    have B_v2 : Own.Bp v2 1250 := e_v2 ▸ Own.VV_bp (j := 1242) (B_d9.mono (by decide)) (B_t1.mono (by decide)) (B_v1.mono (by decide)) (by decide)
    have n_v2 := B_v2.nn
    have f_v2 := B_v2.1
    obtain ⟨t2, e_t2⟩ : ∃ v, (Own.RR d9 t1 v1) = v := ⟨_, rfl⟩
    rw [e_t2] at G95_1
    have B_t2 : Own.Bp t2 1254 := e_t2 ▸ Own.RR_bp (j := 1242) (B_d9.mono (by decide)) (B_t1.mono (by decide)) (B_v1.mono (by decide)) (by decide)
    have n_t2 := B_t2.nn
    have f_t2 := B_t2.1
    have k2 := own_2b KK (B_v1.mono (by decide)) (B_t1.mono (by decide)) z_v1 z_t1
    rw [e_v2, e_t2] at k2
    have k3 := own_3b KK (B_v2.mono (by decide)) (B_t2.mono (by decide)) k2
    refine Own.aload X95 at_95 rfl rfl ?_
    refine Own.iconst X95 (v := 3) at_97 rfl ?_
    refine Own.iconst X95 (v := 2) at_98 rfl ?_
    refine Own.dload X95 at_99 rfl ?_
    refine Own.callV_ (y := mn_13) (z := mn_13) (a := ts) X95 at_101 (Own.wd hw 25 rfl) (Own.wd hw 26 rfl) (Own.wd hw 28 rfl) (Own.wd hw 27 rfl) rfl (Own.wd hw 4 rfl) (Own.wd hw 29 rfl) (by decide) F96 (rm4_c l Z a0 hw ts d5 ra_66_74 rb_66_74 rc_66_74 k_ra_66_74 k_rb_66_74 k_rc_66_74 0 v1 v2 0 0 t1 t2 0 h95 n0 Z100 F96 F97 F98 F99 G95_0 G95_1 G95_2 ne77 ne79 ne81 U74_0 U74_1 U74_2 fr78 fr80 fr82 (B_d5.mono (by decide)) (B_t2.mono (by decide)) (B_v2.mono (by decide)) Ov) (lenOf pd_17 rfl) rfl (argsL := [.int (3 : Int32), .int (2 : Int32), .double d5]) (rest := []) rfl (W := 0) (Nat.le_of_eq rfl) (by decide) (by decide) (by decide) (by decide) fun T101 h101 v101 X101 q101 => ?_
    obtain ⟨w3_101_101, t3_101_101, W3_101_101, rfl, K101, G101_0, G101_1, G101_2, Q3⟩ := q101
    have F102 := F96.keep K101
    have F103 := F97.keep K101 (ninS ne77 (ninS ne79 (ninS ne81 nin0)))
    have F104 := F98.keep K101 (ninS ne77 (ninS ne79 (ninS ne81 nin0)))
    have F105 := F99.keep K101 (ninS ne77 (ninS ne79 (ninS ne81 nin0)))
    have Z106 : n0 ≤ h101.size := Nat.le_trans Z100 K101.1
    show Own.Go p e below s n0 _ _ _ (T101.setTop (mkF m 104 _ []))
    obtain ⟨B_w3_101_101, B_t3_101_101, D3⟩ := Q3
    have n_w3_101_101 := B_w3_101_101.nn
    have n_t3_101_101 := B_t3_101_101.nn
    rcases D3 with ⟨x3, w3e, t3e, rfl⟩ | ⟨x3, ⟨ow, rfl⟩, u3⟩
    · refine Own.iloadN X101 at_104 rfl ?_
      obtain ⟨g1, g2⟩ := k3.1 x3
      rw [← w3e] at g1
      rw [← t3e] at g2
      suffices J105_107 : ∀ (z113_107 : Int32), z113_107 = Own.bo (¬ (i0.toInt = (0 : Int))) → Own.Go p e below s n0 (fun v _ => v = some (.int 1)) 24 128 (T101.setTop (mkF m 113 #[.val (.int i0), .val (.int i1), .val (.int i2), .val (.int i3), .val (.double d5), .second, .val (.double d9), .second, .val (.double d17), .second, .val (.int (1 : Int32)), .val (.double d17), .second, .val (.double d5), .second, .val (.ref ts), .unset, .unset, .unset, .unset, .unset, .unset, .unset, .unset, .unset, .unset, .unset, .unset, .unset, .unset, .unset] [.int z113_107])) by
        refine Own.iff_ X101 (pc' := 112) at_105 (by decide) (fun (h105 : i0.toInt = (0 : Int)) => ?_) (fun (h105 : ¬ (i0.toInt = (0 : Int))) => ?_)
        · refine Own.iconst X101 (v := 0) at_112 rfl ?_
          exact J105_107 _ (Own.bo_f (fun q => q h105))
        · refine Own.iconst X101 (v := 1) at_108 rfl ?_
          refine Own.goto_ X101 (pc' := 113) at_109 (by decide) ?_
          exact J105_107 _ (Own.bo_t (h105))
      intro z113_107 e_z113_107
      subst e_z113_107
      refine Own.istore X101 at_113 (l' := #[.val (.int i0), .val (.int i1), .val (.int i2), .val (.int i3), .val (.double d5), .second, .val (.double d9), .second, .val (.double d17), .second, .val (.int (1 : Int32)), .val (.double d17), .second, .val (.double d5), .second, .val (.ref ts), .val (.int (Own.bo (¬ (i0.toInt = (0 : Int))))), .unset, .unset, .unset, .unset, .unset, .unset, .unset, .unset, .unset, .unset, .unset, .unset, .unset, .unset]) rfl ?_
      refine Own.iloadN X101 at_115 rfl ?_
      suffices J116_108 : ∀ (z124_108 : Int32), z124_108 = Own.bo (¬ (i1.toInt = (0 : Int))) → Own.Go p e below s n0 (fun v _ => v = some (.int 1)) 24 128 (T101.setTop (mkF m 124 #[.val (.int i0), .val (.int i1), .val (.int i2), .val (.int i3), .val (.double d5), .second, .val (.double d9), .second, .val (.double d17), .second, .val (.int (1 : Int32)), .val (.double d17), .second, .val (.double d5), .second, .val (.ref ts), .val (.int (Own.bo (¬ (i0.toInt = (0 : Int))))), .unset, .unset, .unset, .unset, .unset, .unset, .unset, .unset, .unset, .unset, .unset, .unset, .unset, .unset] [.int z124_108])) by
        refine Own.iff_ X101 (pc' := 123) at_116 (by decide) (fun (h116 : i1.toInt = (0 : Int)) => ?_) (fun (h116 : ¬ (i1.toInt = (0 : Int))) => ?_)
        · refine Own.iconst X101 (v := 0) at_123 rfl ?_
          exact J116_108 _ (Own.bo_f (fun q => q h116))
        · refine Own.iconst X101 (v := 1) at_119 rfl ?_
          refine Own.goto_ X101 (pc' := 124) at_120 (by decide) ?_
          exact J116_108 _ (Own.bo_t (h116))
      intro z124_108 e_z124_108
      subst e_z124_108
      refine Own.istore X101 at_124 (l' := #[.val (.int i0), .val (.int i1), .val (.int i2), .val (.int i3), .val (.double d5), .second, .val (.double d9), .second, .val (.double d17), .second, .val (.int (1 : Int32)), .val (.double d17), .second, .val (.double d5), .second, .val (.ref ts), .val (.int (Own.bo (¬ (i0.toInt = (0 : Int))))), .val (.int (Own.bo (¬ (i1.toInt = (0 : Int))))), .unset, .unset, .unset, .unset, .unset, .unset, .unset, .unset, .unset, .unset, .unset, .unset, .unset]) rfl ?_
      refine Own.iloadN X101 at_126 rfl ?_
      suffices J127_109 : ∀ (z135_109 : Int32), z135_109 = Own.bo (¬ (i2.toInt = (0 : Int))) → Own.Go p e below s n0 (fun v _ => v = some (.int 1)) 24 128 (T101.setTop (mkF m 135 #[.val (.int i0), .val (.int i1), .val (.int i2), .val (.int i3), .val (.double d5), .second, .val (.double d9), .second, .val (.double d17), .second, .val (.int (1 : Int32)), .val (.double d17), .second, .val (.double d5), .second, .val (.ref ts), .val (.int (Own.bo (¬ (i0.toInt = (0 : Int))))), .val (.int (Own.bo (¬ (i1.toInt = (0 : Int))))), .unset, .unset, .unset, .unset, .unset, .unset, .unset, .unset, .unset, .unset, .unset, .unset, .unset] [.int z135_109])) by
        refine Own.iff_ X101 (pc' := 134) at_127 (by decide) (fun (h127 : i2.toInt = (0 : Int)) => ?_) (fun (h127 : ¬ (i2.toInt = (0 : Int))) => ?_)
        · refine Own.iconst X101 (v := 0) at_134 rfl ?_
          exact J127_109 _ (Own.bo_f (fun q => q h127))
        · refine Own.iconst X101 (v := 1) at_130 rfl ?_
          refine Own.goto_ X101 (pc' := 135) at_131 (by decide) ?_
          exact J127_109 _ (Own.bo_t (h127))
      intro z135_109 e_z135_109
      subst e_z135_109
      refine Own.istore X101 at_135 (l' := #[.val (.int i0), .val (.int i1), .val (.int i2), .val (.int i3), .val (.double d5), .second, .val (.double d9), .second, .val (.double d17), .second, .val (.int (1 : Int32)), .val (.double d17), .second, .val (.double d5), .second, .val (.ref ts), .val (.int (Own.bo (¬ (i0.toInt = (0 : Int))))), .val (.int (Own.bo (¬ (i1.toInt = (0 : Int))))), .val (.int (Own.bo (¬ (i2.toInt = (0 : Int))))), .unset, .unset, .unset, .unset, .unset, .unset, .unset, .unset, .unset, .unset, .unset, .unset]) rfl ?_
      refine Own.iload X101 at_137 rfl ?_
      refine Own.iff_ X101 (pc' := 147) at_139 (by decide) (fun q => absurd (show (1 : Int) = (0 : Int) from q) (show ¬ ((1 : Int) = (0 : Int)) from by decide)) (fun _ => ?_)
      refine Own.iload X101 at_142 rfl ?_
      refine Own.goto_ X101 (pc' := 149) at_144 (by decide) ?_
      refine Own.istore X101 at_149 (l' := #[.val (.int i0), .val (.int i1), .val (.int i2), .val (.int i3), .val (.double d5), .second, .val (.double d9), .second, .val (.double d17), .second, .val (.int (1 : Int32)), .val (.double d17), .second, .val (.double d5), .second, .val (.ref ts), .val (.int (Own.bo (¬ (i0.toInt = (0 : Int))))), .val (.int (Own.bo (¬ (i1.toInt = (0 : Int))))), .val (.int (Own.bo (¬ (i2.toInt = (0 : Int))))), .val (.int (Own.bo (¬ (i2.toInt = (0 : Int))))), .unset, .unset, .unset, .unset, .unset, .unset, .unset, .unset, .unset, .unset, .unset]) rfl ?_
      refine Own.iload X101 at_151 rfl ?_
      suffices J153_110 : ∀ (z161_110 : Int32), z161_110 = Own.bo (¬ (i0.toInt = (0 : Int))) → Own.Go p e below s n0 (fun v _ => v = some (.int 1)) 24 128 (T101.setTop (mkF m 161 #[.val (.int i0), .val (.int i1), .val (.int i2), .val (.int i3), .val (.double d5), .second, .val (.double d9), .second, .val (.double d17), .second, .val (.int (1 : Int32)), .val (.double d17), .second, .val (.double d5), .second, .val (.ref ts), .val (.int (Own.bo (¬ (i0.toInt = (0 : Int))))), .val (.int (Own.bo (¬ (i1.toInt = (0 : Int))))), .val (.int (Own.bo (¬ (i2.toInt = (0 : Int))))), .val (.int (Own.bo (¬ (i2.toInt = (0 : Int))))), .unset, .unset, .unset, .unset, .unset, .unset, .unset, .unset, .unset, .unset, .unset] [.int z161_110])) by
        refine Own.ifeqB X101 (pc' := 160) at_153 (by decide) (fun (h153 : ¬ (¬ (i0.toInt = (0 : Int)))) => ?_) (fun (h153 : ¬ (i0.toInt = (0 : Int))) => ?_)
        · refine Own.iconst X101 (v := 0) at_160 rfl ?_
          exact J153_110 _ (Own.bo_f (h153))
        · refine Own.iconst X101 (v := 1) at_156 rfl ?_
          refine Own.goto_ X101 (pc' := 161) at_157 (by decide) ?_
          exact J153_110 _ (Own.bo_t (h153))
      intro z161_110 e_z161_110
      subst e_z161_110
      refine Own.iload X101 at_161 rfl ?_
      suffices J163_111 : ∀ (z171_111 : Int32), z171_111 = Own.bo (¬ (i1.toInt = (0 : Int))) → Own.Go p e below s n0 (fun v _ => v = some (.int 1)) 24 128 (T101.setTop (mkF m 171 #[.val (.int i0), .val (.int i1), .val (.int i2), .val (.int i3), .val (.double d5), .second, .val (.double d9), .second, .val (.double d17), .second, .val (.int (1 : Int32)), .val (.double d17), .second, .val (.double d5), .second, .val (.ref ts), .val (.int (Own.bo (¬ (i0.toInt = (0 : Int))))), .val (.int (Own.bo (¬ (i1.toInt = (0 : Int))))), .val (.int (Own.bo (¬ (i2.toInt = (0 : Int))))), .val (.int (Own.bo (¬ (i2.toInt = (0 : Int))))), .unset, .unset, .unset, .unset, .unset, .unset, .unset, .unset, .unset, .unset, .unset] [.int z171_111, .int (Own.bo (¬ (i0.toInt = (0 : Int))))])) by
        refine Own.ifeqB X101 (pc' := 170) at_163 (by decide) (fun (h163 : ¬ (¬ (i1.toInt = (0 : Int)))) => ?_) (fun (h163 : ¬ (i1.toInt = (0 : Int))) => ?_)
        · refine Own.iconst X101 (v := 0) at_170 rfl ?_
          exact J163_111 _ (Own.bo_f (h163))
        · refine Own.iconst X101 (v := 1) at_166 rfl ?_
          refine Own.goto_ X101 (pc' := 171) at_167 (by decide) ?_
          exact J163_111 _ (Own.bo_t (h163))
      intro z171_111 e_z171_111
      subst e_z171_111
      refine Own.iadd X101 at_171 ?_
      refine Own.iload X101 at_172 rfl ?_
      suffices J174_112 : ∀ (z182_112 : Int32), z182_112 = Own.bo (¬ (i2.toInt = (0 : Int))) → Own.Go p e below s n0 (fun v _ => v = some (.int 1)) 24 128 (T101.setTop (mkF m 182 #[.val (.int i0), .val (.int i1), .val (.int i2), .val (.int i3), .val (.double d5), .second, .val (.double d9), .second, .val (.double d17), .second, .val (.int (1 : Int32)), .val (.double d17), .second, .val (.double d5), .second, .val (.ref ts), .val (.int (Own.bo (¬ (i0.toInt = (0 : Int))))), .val (.int (Own.bo (¬ (i1.toInt = (0 : Int))))), .val (.int (Own.bo (¬ (i2.toInt = (0 : Int))))), .val (.int (Own.bo (¬ (i2.toInt = (0 : Int))))), .unset, .unset, .unset, .unset, .unset, .unset, .unset, .unset, .unset, .unset, .unset] [.int z182_112, .int ((Own.bo (¬ (i0.toInt = (0 : Int)))) + (Own.bo (¬ (i1.toInt = (0 : Int)))))])) by
        refine Own.ifeqB X101 (pc' := 181) at_174 (by decide) (fun (h174 : ¬ (¬ (i2.toInt = (0 : Int)))) => ?_) (fun (h174 : ¬ (i2.toInt = (0 : Int))) => ?_)
        · refine Own.iconst X101 (v := 0) at_181 rfl ?_
          exact J174_112 _ (Own.bo_f (h174))
        · refine Own.iconst X101 (v := 1) at_177 rfl ?_
          refine Own.goto_ X101 (pc' := 182) at_178 (by decide) ?_
          exact J174_112 _ (Own.bo_t (h174))
      intro z182_112 e_z182_112
      subst e_z182_112
      refine Own.iadd X101 at_182 ?_
      refine Own.istore X101 at_183 (l' := #[.val (.int i0), .val (.int i1), .val (.int i2), .val (.int i3), .val (.double d5), .second, .val (.double d9), .second, .val (.double d17), .second, .val (.int (1 : Int32)), .val (.double d17), .second, .val (.double d5), .second, .val (.ref ts), .val (.int (Own.bo (¬ (i0.toInt = (0 : Int))))), .val (.int (Own.bo (¬ (i1.toInt = (0 : Int))))), .val (.int (Own.bo (¬ (i2.toInt = (0 : Int))))), .val (.int (Own.bo (¬ (i2.toInt = (0 : Int))))), .val (.int (((Own.bo (¬ (i0.toInt = (0 : Int)))) + (Own.bo (¬ (i1.toInt = (0 : Int))))) + (Own.bo (¬ (i2.toInt = (0 : Int)))))), .unset, .unset, .unset, .unset, .unset, .unset, .unset, .unset, .unset, .unset]) rfl ?_
      refine Own.iload X101 at_185 rfl ?_
      suffices J187_113 : ∀ (z200_113 : Int32), z200_113 = Own.bo (¬ (¬ (i2.toInt = (0 : Int))) ∨ (¬ (¬ (i1.toInt = (0 : Int))))) → Own.Go p e below s n0 (fun v _ => v = some (.int 1)) 24 128 (T101.setTop (mkF m 200 #[.val (.int i0), .val (.int i1), .val (.int i2), .val (.int i3), .val (.double d5), .second, .val (.double d9), .second, .val (.double d17), .second, .val (.int (1 : Int32)), .val (.double d17), .second, .val (.double d5), .second, .val (.ref ts), .val (.int (Own.bo (¬ (i0.toInt = (0 : Int))))), .val (.int (Own.bo (¬ (i1.toInt = (0 : Int))))), .val (.int (Own.bo (¬ (i2.toInt = (0 : Int))))), .val (.int (Own.bo (¬ (i2.toInt = (0 : Int))))), .val (.int (((Own.bo (¬ (i0.toInt = (0 : Int)))) + (Own.bo (¬ (i1.toInt = (0 : Int))))) + (Own.bo (¬ (i2.toInt = (0 : Int)))))), .unset, .unset, .unset, .unset, .unset, .unset, .unset, .unset, .unset, .unset] [.int z200_113])) by
        refine Own.ifeqB X101 (pc' := 195) at_187 (by decide) (fun (h187 : ¬ (¬ (i2.toInt = (0 : Int)))) => ?_) (fun (h187 : ¬ (i2.toInt = (0 : Int))) => ?_)
        · refine Own.iconst X101 (v := 1) at_195 rfl ?_
          refine Own.goto_ X101 (pc' := 200) at_196 (by decide) ?_
          exact J187_113 _ (Own.bo_t (Or.inl h187))
        · refine Own.iload X101 at_190 rfl ?_
          refine Own.ifneB X101 (pc' := 199) at_192 (by decide) (fun (h192 : ¬ (i1.toInt = (0 : Int))) => ?_) (fun (h192 : ¬ (¬ (i1.toInt = (0 : Int)))) => ?_)
          · refine Own.iconst X101 (v := 0) at_199 rfl ?_
            exact J187_113 _ (Own.bo_f (fun q => q.elim (fun z => z h187) (fun q => q h192)))
          · refine Own.iconst X101 (v := 1) at_195 rfl ?_
            refine Own.goto_ X101 (pc' := 200) at_196 (by decide) ?_
            exact J187_113 _ (Own.bo_t (Or.inr (h192)))
      intro z200_113 e_z200_113
      subst e_z200_113
      refine Own.istore X101 at_200 (l' := #[.val (.int i0), .val (.int i1), .val (.int i2), .val (.int i3), .val (.double d5), .second, .val (.double d9), .second, .val (.double d17), .second, .val (.int (1 : Int32)), .val (.double d17), .second, .val (.double d5), .second, .val (.ref ts), .val (.int (Own.bo (¬ (i0.toInt = (0 : Int))))), .val (.int (Own.bo (¬ (i1.toInt = (0 : Int))))), .val (.int (Own.bo (¬ (i2.toInt = (0 : Int))))), .val (.int (Own.bo (¬ (i2.toInt = (0 : Int))))), .val (.int (((Own.bo (¬ (i0.toInt = (0 : Int)))) + (Own.bo (¬ (i1.toInt = (0 : Int))))) + (Own.bo (¬ (i2.toInt = (0 : Int)))))), .val (.int (Own.bo (¬ (¬ (i2.toInt = (0 : Int))) ∨ (¬ (¬ (i1.toInt = (0 : Int))))))), .unset, .unset, .unset, .unset, .unset, .unset, .unset, .unset, .unset]) rfl ?_
      refine Own.iload X101 at_202 rfl ?_
      refine Own.iconst X101 (v := 1) at_204 rfl ?_
      suffices J205_114 : ∀ (z213_114 : Int32), z213_114 = Own.bo (¬ ((1 : Int) < (((Own.bo (¬ (i0.toInt = (0 : Int)))) + (Own.bo (¬ (i1.toInt = (0 : Int))))) + (Own.bo (¬ (i2.toInt = (0 : Int))))).toInt)) → Own.Go p e below s n0 (fun v _ => v = some (.int 1)) 24 128 (T101.setTop (mkF m 213 #[.val (.int i0), .val (.int i1), .val (.int i2), .val (.int i3), .val (.double d5), .second, .val (.double d9), .second, .val (.double d17), .second, .val (.int (1 : Int32)), .val (.double d17), .second, .val (.double d5), .second, .val (.ref ts), .val (.int (Own.bo (¬ (i0.toInt = (0 : Int))))), .val (.int (Own.bo (¬ (i1.toInt = (0 : Int))))), .val (.int (Own.bo (¬ (i2.toInt = (0 : Int))))), .val (.int (Own.bo (¬ (i2.toInt = (0 : Int))))), .val (.int (((Own.bo (¬ (i0.toInt = (0 : Int)))) + (Own.bo (¬ (i1.toInt = (0 : Int))))) + (Own.bo (¬ (i2.toInt = (0 : Int)))))), .val (.int (Own.bo (¬ (¬ (i2.toInt = (0 : Int))) ∨ (¬ (¬ (i1.toInt = (0 : Int))))))), .unset, .unset, .unset, .unset, .unset, .unset, .unset, .unset, .unset] [.int z213_114])) by
        refine Own.icmp_ X101 (pc' := 212) at_205 (by decide) (fun (h205 : (1 : Int) < (((Own.bo (¬ (i0.toInt = (0 : Int)))) + (Own.bo (¬ (i1.toInt = (0 : Int))))) + (Own.bo (¬ (i2.toInt = (0 : Int))))).toInt) => ?_) (fun (h205 : ¬ ((1 : Int) < (((Own.bo (¬ (i0.toInt = (0 : Int)))) + (Own.bo (¬ (i1.toInt = (0 : Int))))) + (Own.bo (¬ (i2.toInt = (0 : Int))))).toInt)) => ?_)
        · refine Own.iconst X101 (v := 0) at_212 rfl ?_
          exact J205_114 _ (Own.bo_f (fun q => q h205))
        · refine Own.iconst X101 (v := 1) at_208 rfl ?_
          refine Own.goto_ X101 (pc' := 213) at_209 (by decide) ?_
          exact J205_114 _ (Own.bo_t (h205))
      intro z213_114 e_z213_114
      subst e_z213_114
      refine Own.istore X101 at_213 (l' := #[.val (.int i0), .val (.int i1), .val (.int i2), .val (.int i3), .val (.double d5), .second, .val (.double d9), .second, .val (.double d17), .second, .val (.int (1 : Int32)), .val (.double d17), .second, .val (.double d5), .second, .val (.ref ts), .val (.int (Own.bo (¬ (i0.toInt = (0 : Int))))), .val (.int (Own.bo (¬ (i1.toInt = (0 : Int))))), .val (.int (Own.bo (¬ (i2.toInt = (0 : Int))))), .val (.int (Own.bo (¬ (i2.toInt = (0 : Int))))), .val (.int (((Own.bo (¬ (i0.toInt = (0 : Int)))) + (Own.bo (¬ (i1.toInt = (0 : Int))))) + (Own.bo (¬ (i2.toInt = (0 : Int)))))), .val (.int (Own.bo (¬ (¬ (i2.toInt = (0 : Int))) ∨ (¬ (¬ (i1.toInt = (0 : Int))))))), .val (.int (Own.bo (¬ ((1 : Int) < (((Own.bo (¬ (i0.toInt = (0 : Int)))) + (Own.bo (¬ (i1.toInt = (0 : Int))))) + (Own.bo (¬ (i2.toInt = (0 : Int))))).toInt)))), .unset, .unset, .unset, .unset, .unset, .unset, .unset, .unset]) rfl ?_
      refine Own.iload X101 at_215 rfl ?_
      suffices J217_115 : ∀ (z237_115 : UInt64), z237_115 = (if ¬ (i0.toInt = (0 : Int)) then d5 else (if ¬ (i1.toInt = (0 : Int)) then d9 else d17)) → Own.Go p e below s n0 (fun v _ => v = some (.int 1)) 24 128 (T101.setTop (mkF m 237 #[.val (.int i0), .val (.int i1), .val (.int i2), .val (.int i3), .val (.double d5), .second, .val (.double d9), .second, .val (.double d17), .second, .val (.int (1 : Int32)), .val (.double d17), .second, .val (.double d5), .second, .val (.ref ts), .val (.int (Own.bo (¬ (i0.toInt = (0 : Int))))), .val (.int (Own.bo (¬ (i1.toInt = (0 : Int))))), .val (.int (Own.bo (¬ (i2.toInt = (0 : Int))))), .val (.int (Own.bo (¬ (i2.toInt = (0 : Int))))), .val (.int (((Own.bo (¬ (i0.toInt = (0 : Int)))) + (Own.bo (¬ (i1.toInt = (0 : Int))))) + (Own.bo (¬ (i2.toInt = (0 : Int)))))), .val (.int (Own.bo (¬ (¬ (i2.toInt = (0 : Int))) ∨ (¬ (¬ (i1.toInt = (0 : Int))))))), .val (.int (Own.bo (¬ ((1 : Int) < (((Own.bo (¬ (i0.toInt = (0 : Int)))) + (Own.bo (¬ (i1.toInt = (0 : Int))))) + (Own.bo (¬ (i2.toInt = (0 : Int))))).toInt)))), .unset, .unset, .unset, .unset, .unset, .unset, .unset, .unset] [.double z237_115])) by
        refine Own.ifeqB X101 (pc' := 225) at_217 (by decide) (fun (h217 : ¬ (¬ (i0.toInt = (0 : Int)))) => ?_) (fun (h217 : ¬ (i0.toInt = (0 : Int))) => ?_)
        · refine Own.iload X101 at_225 rfl ?_
          refine Own.ifeqB X101 (pc' := 235) at_227 (by decide) (fun (h227 : ¬ (¬ (i1.toInt = (0 : Int)))) => ?_) (fun (h227 : ¬ (i1.toInt = (0 : Int))) => ?_)
          · refine Own.dload X101 at_235 rfl ?_
            exact J217_115 _ ((if_neg h217).trans (if_neg h227)).symm
          · refine Own.dload X101 at_230 rfl ?_
            refine Own.goto_ X101 (pc' := 237) at_232 (by decide) ?_
            exact J217_115 _ ((if_neg h217).trans (if_pos h227)).symm
        · refine Own.dload X101 at_220 rfl ?_
          refine Own.goto_ X101 (pc' := 237) at_222 (by decide) ?_
          exact J217_115 _ (if_pos h217).symm
      intro xp e_xp
      have n_xp : NoNaN64 xp := by rw [e_xp]; split; assumption; split <;> assumption
      have x_xp : (i0.toInt ≠ 0 → Own.dz xp = Own.dz d5) ∧ (i0.toInt = 0 → i1.toInt ≠ 0 → Own.dz xp = Own.dz d9) ∧ (i0.toInt = 0 → i1.toInt = 0 → Own.dz xp = Own.dz d17) := by rw [e_xp]; exact ⟨fun q => by rw [if_pos q], fun q z => by rw [if_neg (fun w => w q), if_pos z], fun q z => by rw [if_neg (fun w => w q), if_neg (fun w => w z)]⟩
      refine Own.dstore X101 at_237 (l' := #[.val (.int i0), .val (.int i1), .val (.int i2), .val (.int i3), .val (.double d5), .second, .val (.double d9), .second, .val (.double d17), .second, .val (.int (1 : Int32)), .val (.double d17), .second, .val (.double d5), .second, .val (.ref ts), .val (.int (Own.bo (¬ (i0.toInt = (0 : Int))))), .val (.int (Own.bo (¬ (i1.toInt = (0 : Int))))), .val (.int (Own.bo (¬ (i2.toInt = (0 : Int))))), .val (.int (Own.bo (¬ (i2.toInt = (0 : Int))))), .val (.int (((Own.bo (¬ (i0.toInt = (0 : Int)))) + (Own.bo (¬ (i1.toInt = (0 : Int))))) + (Own.bo (¬ (i2.toInt = (0 : Int)))))), .val (.int (Own.bo (¬ (¬ (i2.toInt = (0 : Int))) ∨ (¬ (¬ (i1.toInt = (0 : Int))))))), .val (.int (Own.bo (¬ ((1 : Int) < (((Own.bo (¬ (i0.toInt = (0 : Int)))) + (Own.bo (¬ (i1.toInt = (0 : Int))))) + (Own.bo (¬ (i2.toInt = (0 : Int))))).toInt)))), .val (.double xp), .second, .unset, .unset, .unset, .unset, .unset, .unset]) rfl ?_
      refine Own.aload X101 at_239 rfl rfl ?_
      refine Own.iconst X101 (v := 0) at_241 rfl ?_
      refine Own.callV_ (y := mn_7) (z := mn_7) (a := ts) X101 at_242 (Own.wd hw 43 rfl) (Own.wd hw 44 rfl) (Own.wd hw 46 rfl) (Own.wd hw 45 rfl) rfl (Own.wd hw 4 rfl) (Own.wd hw 47 rfl) (by decide) F102 (rm8_0 l Z a0 hw ts rb_66_74 rc_66_74 k_rb_66_74 k_rc_66_74 0 t1 t2 t3_101_101 (.null) (.null) (.null) h101 n0 Z106 F104 F105 G101_1 G101_2 Own.nn_0 ) (lenOf pd_18 rfl) rfl (argsL := [.int (0 : Int32)]) (rest := []) rfl (W := 0) (Nat.le_of_eq rfl) (by decide) (by decide) (by decide) (by decide) fun T116 h116 v116 X116 q116 => ?_
      obtain ⟨rfl, rfl⟩ := q116
      show Own.Go p e below s n0 _ _ _ (T116.setTop (mkF m 245 _ [.int (Own.bo (Own.dz 0 = Own.dz 0))]))
      refine Own.istore X116 at_245 (l' := #[.val (.int i0), .val (.int i1), .val (.int i2), .val (.int i3), .val (.double d5), .second, .val (.double d9), .second, .val (.double d17), .second, .val (.int (1 : Int32)), .val (.double d17), .second, .val (.double d5), .second, .val (.ref ts), .val (.int (Own.bo (¬ (i0.toInt = (0 : Int))))), .val (.int (Own.bo (¬ (i1.toInt = (0 : Int))))), .val (.int (Own.bo (¬ (i2.toInt = (0 : Int))))), .val (.int (Own.bo (¬ (i2.toInt = (0 : Int))))), .val (.int (((Own.bo (¬ (i0.toInt = (0 : Int)))) + (Own.bo (¬ (i1.toInt = (0 : Int))))) + (Own.bo (¬ (i2.toInt = (0 : Int)))))), .val (.int (Own.bo (¬ (¬ (i2.toInt = (0 : Int))) ∨ (¬ (¬ (i1.toInt = (0 : Int))))))), .val (.int (Own.bo (¬ ((1 : Int) < (((Own.bo (¬ (i0.toInt = (0 : Int)))) + (Own.bo (¬ (i1.toInt = (0 : Int))))) + (Own.bo (¬ (i2.toInt = (0 : Int))))).toInt)))), .val (.double xp), .second, .val (.int (Own.bo (Own.dz 0 = Own.dz 0))), .unset, .unset, .unset, .unset, .unset]) rfl ?_
      refine Own.aload X116 at_247 rfl rfl ?_
      refine Own.iconst X116 (v := 1) at_249 rfl ?_
      refine Own.callV_ (y := mn_7) (z := mn_7) (a := ts) X116 at_250 (Own.wd hw 43 rfl) (Own.wd hw 44 rfl) (Own.wd hw 46 rfl) (Own.wd hw 45 rfl) rfl (Own.wd hw 4 rfl) (Own.wd hw 47 rfl) (by decide) F102 (rm8_1 l Z a0 hw ts rb_66_74 rc_66_74 k_rb_66_74 k_rc_66_74 0 t1 t2 t3_101_101 (.null) (.null) (.null) h101 n0 Z106 F104 F105 G101_1 G101_2 n_t1 ) (lenOf pd_18 rfl) rfl (argsL := [.int (1 : Int32)]) (rest := []) rfl (W := 0) (Nat.le_of_eq rfl) (by decide) (by decide) (by decide) (by decide) fun T117 h117 v117 X117 q117 => ?_
      obtain ⟨rfl, rfl⟩ := q117
      show Own.Go p e below s n0 _ _ _ (T117.setTop (mkF m 253 _ [.int (Own.bo (Own.dz t1 = Own.dz 0))]))
      refine Own.istore X117 at_253 (l' := #[.val (.int i0), .val (.int i1), .val (.int i2), .val (.int i3), .val (.double d5), .second, .val (.double d9), .second, .val (.double d17), .second, .val (.int (1 : Int32)), .val (.double d17), .second, .val (.double d5), .second, .val (.ref ts), .val (.int (Own.bo (¬ (i0.toInt = (0 : Int))))), .val (.int (Own.bo (¬ (i1.toInt = (0 : Int))))), .val (.int (Own.bo (¬ (i2.toInt = (0 : Int))))), .val (.int (Own.bo (¬ (i2.toInt = (0 : Int))))), .val (.int (((Own.bo (¬ (i0.toInt = (0 : Int)))) + (Own.bo (¬ (i1.toInt = (0 : Int))))) + (Own.bo (¬ (i2.toInt = (0 : Int)))))), .val (.int (Own.bo (¬ (¬ (i2.toInt = (0 : Int))) ∨ (¬ (¬ (i1.toInt = (0 : Int))))))), .val (.int (Own.bo (¬ ((1 : Int) < (((Own.bo (¬ (i0.toInt = (0 : Int)))) + (Own.bo (¬ (i1.toInt = (0 : Int))))) + (Own.bo (¬ (i2.toInt = (0 : Int))))).toInt)))), .val (.double xp), .second, .val (.int (Own.bo (Own.dz 0 = Own.dz 0))), .val (.int (Own.bo (Own.dz t1 = Own.dz 0))), .unset, .unset, .unset, .unset]) rfl ?_
      refine Own.aload X117 at_255 rfl rfl ?_
      refine Own.iconst X117 (v := 2) at_257 rfl ?_
      refine Own.callV_ (y := mn_7) (z := mn_7) (a := ts) X117 at_258 (Own.wd hw 43 rfl) (Own.wd hw 44 rfl) (Own.wd hw 46 rfl) (Own.wd hw 45 rfl) rfl (Own.wd hw 4 rfl) (Own.wd hw 47 rfl) (by decide) F102 (rm8_2 l Z a0 hw ts rb_66_74 rc_66_74 k_rb_66_74 k_rc_66_74 0 t1 t2 t3_101_101 (.null) (.null) (.null) h101 n0 Z106 F104 F105 G101_1 G101_2 n_t2 ) (lenOf pd_18 rfl) rfl (argsL := [.int (2 : Int32)]) (rest := []) rfl (W := 0) (Nat.le_of_eq rfl) (by decide) (by decide) (by decide) (by decide) fun T118 h118 v118 X118 q118 => ?_
      obtain ⟨rfl, rfl⟩ := q118
      show Own.Go p e below s n0 _ _ _ (T118.setTop (mkF m 261 _ [.int (Own.bo (Own.dz t2 = Own.dz 0))]))
      refine Own.istore X118 at_261 (l' := #[.val (.int i0), .val (.int i1), .val (.int i2), .val (.int i3), .val (.double d5), .second, .val (.double d9), .second, .val (.double d17), .second, .val (.int (1 : Int32)), .val (.double d17), .second, .val (.double d5), .second, .val (.ref ts), .val (.int (Own.bo (¬ (i0.toInt = (0 : Int))))), .val (.int (Own.bo (¬ (i1.toInt = (0 : Int))))), .val (.int (Own.bo (¬ (i2.toInt = (0 : Int))))), .val (.int (Own.bo (¬ (i2.toInt = (0 : Int))))), .val (.int (((Own.bo (¬ (i0.toInt = (0 : Int)))) + (Own.bo (¬ (i1.toInt = (0 : Int))))) + (Own.bo (¬ (i2.toInt = (0 : Int)))))), .val (.int (Own.bo (¬ (¬ (i2.toInt = (0 : Int))) ∨ (¬ (¬ (i1.toInt = (0 : Int))))))), .val (.int (Own.bo (¬ ((1 : Int) < (((Own.bo (¬ (i0.toInt = (0 : Int)))) + (Own.bo (¬ (i1.toInt = (0 : Int))))) + (Own.bo (¬ (i2.toInt = (0 : Int))))).toInt)))), .val (.double xp), .second, .val (.int (Own.bo (Own.dz 0 = Own.dz 0))), .val (.int (Own.bo (Own.dz t1 = Own.dz 0))), .val (.int (Own.bo (Own.dz t2 = Own.dz 0))), .unset, .unset, .unset]) rfl ?_
      refine Own.aload X118 at_263 rfl rfl ?_
      refine Own.iconst X118 (v := 3) at_265 rfl ?_
      refine Own.callV_ (y := mn_7) (z := mn_7) (a := ts) X118 at_266 (Own.wd hw 43 rfl) (Own.wd hw 44 rfl) (Own.wd hw 46 rfl) (Own.wd hw 45 rfl) rfl (Own.wd hw 4 rfl) (Own.wd hw 47 rfl) (by decide) F102 (rm8_3 l Z a0 hw ts rb_66_74 rc_66_74 k_rb_66_74 k_rc_66_74 0 t1 t2 t3_101_101 (.null) (.null) (.null) h101 n0 Z106 F104 F105 G101_1 G101_2 n_t3_101_101 ) (lenOf pd_18 rfl) rfl (argsL := [.int (3 : Int32)]) (rest := []) rfl (W := 0) (Nat.le_of_eq rfl) (by decide) (by decide) (by decide) (by decide) fun T119 h119 v119 X119 q119 => ?_
      obtain ⟨rfl, rfl⟩ := q119
      show Own.Go p e below s n0 _ _ _ (T119.setTop (mkF m 269 _ [.int (Own.bo (Own.dz t3_101_101 = Own.dz 0))]))
      refine Own.istore X119 at_269 (l' := #[.val (.int i0), .val (.int i1), .val (.int i2), .val (.int i3), .val (.double d5), .second, .val (.double d9), .second, .val (.double d17), .second, .val (.int (1 : Int32)), .val (.double d17), .second, .val (.double d5), .second, .val (.ref ts), .val (.int (Own.bo (¬ (i0.toInt = (0 : Int))))), .val (.int (Own.bo (¬ (i1.toInt = (0 : Int))))), .val (.int (Own.bo (¬ (i2.toInt = (0 : Int))))), .val (.int (Own.bo (¬ (i2.toInt = (0 : Int))))), .val (.int (((Own.bo (¬ (i0.toInt = (0 : Int)))) + (Own.bo (¬ (i1.toInt = (0 : Int))))) + (Own.bo (¬ (i2.toInt = (0 : Int)))))), .val (.int (Own.bo (¬ (¬ (i2.toInt = (0 : Int))) ∨ (¬ (¬ (i1.toInt = (0 : Int))))))), .val (.int (Own.bo (¬ ((1 : Int) < (((Own.bo (¬ (i0.toInt = (0 : Int)))) + (Own.bo (¬ (i1.toInt = (0 : Int))))) + (Own.bo (¬ (i2.toInt = (0 : Int))))).toInt)))), .val (.double xp), .second, .val (.int (Own.bo (Own.dz 0 = Own.dz 0))), .val (.int (Own.bo (Own.dz t1 = Own.dz 0))), .val (.int (Own.bo (Own.dz t2 = Own.dz 0))), .val (.int (Own.bo (Own.dz t3_101_101 = Own.dz 0))), .unset, .unset]) rfl ?_
      refine Own.aload X119 at_271 rfl rfl ?_
      refine Own.iconst X119 (v := 3) at_273 rfl ?_
      refine Own.callV_ (y := mn_6) (z := mn_6) (a := ts) X119 at_274 (Own.wd hw 48 rfl) (Own.wd hw 49 rfl) (Own.wd hw 51 rfl) (Own.wd hw 50 rfl) rfl (Own.wd hw 4 rfl) (Own.wd hw 52 rfl) (by decide) F102 (rm9_3 l Z a0 hw ts ra_66_74 k_ra_66_74 0 v1 v2 w3_101_101 h101 n0 Z106 F103 G101_0 ) (lenOf pd_19 rfl) rfl (argsL := [.int (3 : Int32)]) (rest := []) rfl (W := 0) (Nat.le_of_eq rfl) (by decide) (by decide) (by decide) (by decide) fun T120 h120 v120 X120 q120 => ?_
      obtain ⟨rfl, rfl⟩ := q120
      show Own.Go p e below s n0 _ _ _ (T120.setTop (mkF m 277 _ [.double w3_101_101]))
      refine Own.dstore X120 at_277 (l' := #[.val (.int i0), .val (.int i1), .val (.int i2), .val (.int i3), .val (.double d5), .second, .val (.double d9), .second, .val (.double d17), .second, .val (.int (1 : Int32)), .val (.double d17), .second, .val (.double d5), .second, .val (.ref ts), .val (.int (Own.bo (¬ (i0.toInt = (0 : Int))))), .val (.int (Own.bo (¬ (i1.toInt = (0 : Int))))), .val (.int (Own.bo (¬ (i2.toInt = (0 : Int))))), .val (.int (Own.bo (¬ (i2.toInt = (0 : Int))))), .val (.int (((Own.bo (¬ (i0.toInt = (0 : Int)))) + (Own.bo (¬ (i1.toInt = (0 : Int))))) + (Own.bo (¬ (i2.toInt = (0 : Int)))))), .val (.int (Own.bo (¬ (¬ (i2.toInt = (0 : Int))) ∨ (¬ (¬ (i1.toInt = (0 : Int))))))), .val (.int (Own.bo (¬ ((1 : Int) < (((Own.bo (¬ (i0.toInt = (0 : Int)))) + (Own.bo (¬ (i1.toInt = (0 : Int))))) + (Own.bo (¬ (i2.toInt = (0 : Int))))).toInt)))), .val (.double xp), .second, .val (.int (Own.bo (Own.dz 0 = Own.dz 0))), .val (.int (Own.bo (Own.dz t1 = Own.dz 0))), .val (.int (Own.bo (Own.dz t2 = Own.dz 0))), .val (.int (Own.bo (Own.dz t3_101_101 = Own.dz 0))), .val (.double w3_101_101), .second]) rfl ?_
      refine Own.iload X120 at_279 rfl ?_
      refine Own.ifeqB X120 (pc' := 315) at_281 (by decide) (fun q => absurd (show ¬ (Own.dz 0 = Own.dz 0) from q) (show ¬ (¬ (Own.dz 0 = Own.dz 0)) from fun z => z (rfl))) (fun _ => ?_)
      refine Own.iload X120 at_284 rfl ?_
      refine Own.ifeqB X120 (pc' := 315) at_286 (by decide) (fun q => absurd (show ¬ (Own.dz t1 = Own.dz 0) from q) (show ¬ (¬ (Own.dz t1 = Own.dz 0)) from fun z => z (z_t1.trans Own.dz_0.symm))) (fun _ => ?_)
      refine Own.iload X120 at_289 rfl ?_
      refine Own.iload X120 at_291 rfl ?_
      refine Own.icmpneB (P := Own.dz t2 = Own.dz 0) (P' := ¬ (¬ (i2.toInt = (0 : Int))) ∨ (¬ (¬ (i1.toInt = (0 : Int))))) X120 (pc' := 315) at_293 (by decide) (fun q => absurd (show ¬ ((Own.dz t2 = Own.dz 0) ↔ (¬ (¬ (i2.toInt = (0 : Int))) ∨ (¬ (¬ (i1.toInt = (0 : Int)))))) from q) (show ¬ (¬ ((Own.dz t2 = Own.dz 0) ↔ (¬ (¬ (i2.toInt = (0 : Int))) ∨ (¬ (¬ (i1.toInt = (0 : Int))))))) from fun z => z (by rw [Own.dz_0]; exact own_x2b KK k2))) (fun _ => ?_)
      refine Own.iload X120 at_296 rfl ?_
      refine Own.iload X120 at_298 rfl ?_
      refine Own.icmpneB (P := Own.dz t3_101_101 = Own.dz 0) (P' := ¬ ((1 : Int) < (((Own.bo (¬ (i0.toInt = (0 : Int)))) + (Own.bo (¬ (i1.toInt = (0 : Int))))) + (Own.bo (¬ (i2.toInt = (0 : Int))))).toInt)) X120 (pc' := 315) at_300 (by decide) (fun q => absurd (show ¬ ((Own.dz t3_101_101 = Own.dz 0) ↔ (¬ ((1 : Int) < (((Own.bo (¬ (i0.toInt = (0 : Int)))) + (Own.bo (¬ (i1.toInt = (0 : Int))))) + (Own.bo (¬ (i2.toInt = (0 : Int))))).toInt))) from q) (show ¬ (¬ ((Own.dz t3_101_101 = Own.dz 0) ↔ (¬ ((1 : Int) < (((Own.bo (¬ (i0.toInt = (0 : Int)))) + (Own.bo (¬ (i1.toInt = (0 : Int))))) + (Own.bo (¬ (i2.toInt = (0 : Int))))).toInt)))) from fun z => z (by rw [Own.dz_0]; exact g2.trans (not_congr (own_cnt _ _ _).symm)))) (fun _ => ?_)
      refine Own.dload X120 at_303 rfl ?_
      refine Own.dload X120 at_305 rfl ?_
      refine Own.dcmpF X120 (pc' := 315) at_307 at_308 (by decide) n_w3_101_101 n_xp (fun q => absurd (show ¬ (Own.dz w3_101_101 = Own.dz xp) from q) (show ¬ (¬ (Own.dz w3_101_101 = Own.dz xp)) from fun z => z (own_end g1 x_xp))) (fun _ => ?_)
      refine Own.iconst X120 (v := 1) at_311 rfl ?_
      refine Own.goto_ X120 (pc' := 316) at_312 (by decide) ?_
      exact Own.retB X120 at_316 (by decide) rfl (by decide) (by decide)
    · refine Own.iloadN X101 at_104 rfl ?_
      obtain ⟨g1, g2, g3, g4⟩ := k3.2 x3
      have g5 := (u3 g2 g3).trans g4
      suffices J105_121 : ∀ (z113_121 : Int32), z113_121 = Own.bo (¬ (i0.toInt = (0 : Int))) → Own.Go p e below s n0 (fun v _ => v = some (.int 1)) 24 128 (T101.setTop (mkF m 113 #[.val (.int i0), .val (.int i1), .val (.int i2), .val (.int i3), .val (.double d5), .second, .val (.double d9), .second, .val (.double d17), .second, .val (.int (1 : Int32)), .val (.double d17), .second, .val (.double d5), .second, .val (.ref ts), .unset, .unset, .unset, .unset, .unset, .unset, .unset, .unset, .unset, .unset, .unset, .unset, .unset, .unset, .unset] [.int z113_121])) by
        refine Own.iff_ X101 (pc' := 112) at_105 (by decide) (fun (h105 : i0.toInt = (0 : Int)) => ?_) (fun (h105 : ¬ (i0.toInt = (0 : Int))) => ?_)
        · refine Own.iconst X101 (v := 0) at_112 rfl ?_
          exact J105_121 _ (Own.bo_f (fun q => q h105))
        · refine Own.iconst X101 (v := 1) at_108 rfl ?_
          refine Own.goto_ X101 (pc' := 113) at_109 (by decide) ?_
          exact J105_121 _ (Own.bo_t (h105))
      intro z113_121 e_z113_121
      subst e_z113_121
      refine Own.istore X101 at_113 (l' := #[.val (.int i0), .val (.int i1), .val (.int i2), .val (.int i3), .val (.double d5), .second, .val (.double d9), .second, .val (.double d17), .second, .val (.int (1 : Int32)), .val (.double d17), .second, .val (.double d5), .second, .val (.ref ts), .val (.int (Own.bo (¬ (i0.toInt = (0 : Int))))), .unset, .unset, .unset, .unset, .unset, .unset, .unset, .unset, .unset, .unset, .unset, .unset, .unset, .unset]) rfl ?_
      refine Own.iloadN X101 at_115 rfl ?_
      suffices J116_122 : ∀ (z124_122 : Int32), z124_122 = Own.bo (¬ (i1.toInt = (0 : Int))) → Own.Go p e below s n0 (fun v _ => v = some (.int 1)) 24 128 (T101.setTop (mkF m 124 #[.val (.int i0), .val (.int i1), .val (.int i2), .val (.int i3), .val (.double d5), .second, .val (.double d9), .second, .val (.double d17), .second, .val (.int (1 : Int32)), .val (.double d17), .second, .val (.double d5), .second, .val (.ref ts), .val (.int (Own.bo (¬ (i0.toInt = (0 : Int))))), .unset, .unset, .unset, .unset, .unset, .unset, .unset, .unset, .unset, .unset, .unset, .unset, .unset, .unset] [.int z124_122])) by
        refine Own.iff_ X101 (pc' := 123) at_116 (by decide) (fun (h116 : i1.toInt = (0 : Int)) => ?_) (fun (h116 : ¬ (i1.toInt = (0 : Int))) => ?_)
        · refine Own.iconst X101 (v := 0) at_123 rfl ?_
          exact J116_122 _ (Own.bo_f (fun q => q h116))
        · refine Own.iconst X101 (v := 1) at_119 rfl ?_
          refine Own.goto_ X101 (pc' := 124) at_120 (by decide) ?_
          exact J116_122 _ (Own.bo_t (h116))
      intro z124_122 e_z124_122
      subst e_z124_122
      refine Own.istore X101 at_124 (l' := #[.val (.int i0), .val (.int i1), .val (.int i2), .val (.int i3), .val (.double d5), .second, .val (.double d9), .second, .val (.double d17), .second, .val (.int (1 : Int32)), .val (.double d17), .second, .val (.double d5), .second, .val (.ref ts), .val (.int (Own.bo (¬ (i0.toInt = (0 : Int))))), .val (.int (Own.bo (¬ (i1.toInt = (0 : Int))))), .unset, .unset, .unset, .unset, .unset, .unset, .unset, .unset, .unset, .unset, .unset, .unset, .unset]) rfl ?_
      refine Own.iloadN X101 at_126 rfl ?_
      suffices J127_123 : ∀ (z135_123 : Int32), z135_123 = Own.bo (¬ (i2.toInt = (0 : Int))) → Own.Go p e below s n0 (fun v _ => v = some (.int 1)) 24 128 (T101.setTop (mkF m 135 #[.val (.int i0), .val (.int i1), .val (.int i2), .val (.int i3), .val (.double d5), .second, .val (.double d9), .second, .val (.double d17), .second, .val (.int (1 : Int32)), .val (.double d17), .second, .val (.double d5), .second, .val (.ref ts), .val (.int (Own.bo (¬ (i0.toInt = (0 : Int))))), .val (.int (Own.bo (¬ (i1.toInt = (0 : Int))))), .unset, .unset, .unset, .unset, .unset, .unset, .unset, .unset, .unset, .unset, .unset, .unset, .unset] [.int z135_123])) by
        refine Own.iff_ X101 (pc' := 134) at_127 (by decide) (fun (h127 : i2.toInt = (0 : Int)) => ?_) (fun (h127 : ¬ (i2.toInt = (0 : Int))) => ?_)
        · refine Own.iconst X101 (v := 0) at_134 rfl ?_
          exact J127_123 _ (Own.bo_f (fun q => q h127))
        · refine Own.iconst X101 (v := 1) at_130 rfl ?_
          refine Own.goto_ X101 (pc' := 135) at_131 (by decide) ?_
          exact J127_123 _ (Own.bo_t (h127))
      intro z135_123 e_z135_123
      subst e_z135_123
      refine Own.istore X101 at_135 (l' := #[.val (.int i0), .val (.int i1), .val (.int i2), .val (.int i3), .val (.double d5), .second, .val (.double d9), .second, .val (.double d17), .second, .val (.int (1 : Int32)), .val (.double d17), .second, .val (.double d5), .second, .val (.ref ts), .val (.int (Own.bo (¬ (i0.toInt = (0 : Int))))), .val (.int (Own.bo (¬ (i1.toInt = (0 : Int))))), .val (.int (Own.bo (¬ (i2.toInt = (0 : Int))))), .unset, .unset, .unset, .unset, .unset, .unset, .unset, .unset, .unset, .unset, .unset, .unset]) rfl ?_
      refine Own.iload X101 at_137 rfl ?_
      refine Own.iff_ X101 (pc' := 147) at_139 (by decide) (fun q => absurd (show (1 : Int) = (0 : Int) from q) (show ¬ ((1 : Int) = (0 : Int)) from by decide)) (fun _ => ?_)
      refine Own.iload X101 at_142 rfl ?_
      refine Own.goto_ X101 (pc' := 149) at_144 (by decide) ?_
      refine Own.istore X101 at_149 (l' := #[.val (.int i0), .val (.int i1), .val (.int i2), .val (.int i3), .val (.double d5), .second, .val (.double d9), .second, .val (.double d17), .second, .val (.int (1 : Int32)), .val (.double d17), .second, .val (.double d5), .second, .val (.ref ts), .val (.int (Own.bo (¬ (i0.toInt = (0 : Int))))), .val (.int (Own.bo (¬ (i1.toInt = (0 : Int))))), .val (.int (Own.bo (¬ (i2.toInt = (0 : Int))))), .val (.int (Own.bo (¬ (i2.toInt = (0 : Int))))), .unset, .unset, .unset, .unset, .unset, .unset, .unset, .unset, .unset, .unset, .unset]) rfl ?_
      refine Own.iload X101 at_151 rfl ?_
      suffices J153_124 : ∀ (z161_124 : Int32), z161_124 = Own.bo (¬ (i0.toInt = (0 : Int))) → Own.Go p e below s n0 (fun v _ => v = some (.int 1)) 24 128 (T101.setTop (mkF m 161 #[.val (.int i0), .val (.int i1), .val (.int i2), .val (.int i3), .val (.double d5), .second, .val (.double d9), .second, .val (.double d17), .second, .val (.int (1 : Int32)), .val (.double d17), .second, .val (.double d5), .second, .val (.ref ts), .val (.int (Own.bo (¬ (i0.toInt = (0 : Int))))), .val (.int (Own.bo (¬ (i1.toInt = (0 : Int))))), .val (.int (Own.bo (¬ (i2.toInt = (0 : Int))))), .val (.int (Own.bo (¬ (i2.toInt = (0 : Int))))), .unset, .unset, .unset, .unset, .unset, .unset, .unset, .unset, .unset, .unset, .unset] [.int z161_124])) by
        refine Own.ifeqB X101 (pc' := 160) at_153 (by decide) (fun (h153 : ¬ (¬ (i0.toInt = (0 : Int)))) => ?_) (fun (h153 : ¬ (i0.toInt = (0 : Int))) => ?_)
        · refine Own.iconst X101 (v := 0) at_160 rfl ?_
          exact J153_124 _ (Own.bo_f (h153))
        · refine Own.iconst X101 (v := 1) at_156 rfl ?_
          refine Own.goto_ X101 (pc' := 161) at_157 (by decide) ?_
          exact J153_124 _ (Own.bo_t (h153))
      intro z161_124 e_z161_124
      subst e_z161_124
      refine Own.iload X101 at_161 rfl ?_
      suffices J163_125 : ∀ (z171_125 : Int32), z171_125 = Own.bo (¬ (i1.toInt = (0 : Int))) → Own.Go p e below s n0 (fun v _ => v = some (.int 1)) 24 128 (T101.setTop (mkF m 171 #[.val (.int i0), .val (.int i1), .val (.int i2), .val (.int i3), .val (.double d5), .second, .val (.double d9), .second, .val (.double d17), .second, .val (.int (1 : Int32)), .val (.double d17), .second, .val (.double d5), .second, .val (.ref ts), .val (.int (Own.bo (¬ (i0.toInt = (0 : Int))))), .val (.int (Own.bo (¬ (i1.toInt = (0 : Int))))), .val (.int (Own.bo (¬ (i2.toInt = (0 : Int))))), .val (.int (Own.bo (¬ (i2.toInt = (0 : Int))))), .unset, .unset, .unset, .unset, .unset, .unset, .unset, .unset, .unset, .unset, .unset] [.int z171_125, .int (Own.bo (¬ (i0.toInt = (0 : Int))))])) by
        refine Own.ifeqB X101 (pc' := 170) at_163 (by decide) (fun (h163 : ¬ (¬ (i1.toInt = (0 : Int)))) => ?_) (fun (h163 : ¬ (i1.toInt = (0 : Int))) => ?_)
        · refine Own.iconst X101 (v := 0) at_170 rfl ?_
          exact J163_125 _ (Own.bo_f (h163))
        · refine Own.iconst X101 (v := 1) at_166 rfl ?_
          refine Own.goto_ X101 (pc' := 171) at_167 (by decide) ?_
          exact J163_125 _ (Own.bo_t (h163))
      intro z171_125 e_z171_125
      subst e_z171_125
      refine Own.iadd X101 at_171 ?_
      refine Own.iload X101 at_172 rfl ?_
      suffices J174_126 : ∀ (z182_126 : Int32), z182_126 = Own.bo (¬ (i2.toInt = (0 : Int))) → Own.Go p e below s n0 (fun v _ => v = some (.int 1)) 24 128 (T101.setTop (mkF m 182 #[.val (.int i0), .val (.int i1), .val (.int i2), .val (.int i3), .val (.double d5), .second, .val (.double d9), .second, .val (.double d17), .second, .val (.int (1 : Int32)), .val (.double d17), .second, .val (.double d5), .second, .val (.ref ts), .val (.int (Own.bo (¬ (i0.toInt = (0 : Int))))), .val (.int (Own.bo (¬ (i1.toInt = (0 : Int))))), .val (.int (Own.bo (¬ (i2.toInt = (0 : Int))))), .val (.int (Own.bo (¬ (i2.toInt = (0 : Int))))), .unset, .unset, .unset, .unset, .unset, .unset, .unset, .unset, .unset, .unset, .unset] [.int z182_126, .int ((Own.bo (¬ (i0.toInt = (0 : Int)))) + (Own.bo (¬ (i1.toInt = (0 : Int)))))])) by
        refine Own.ifeqB X101 (pc' := 181) at_174 (by decide) (fun (h174 : ¬ (¬ (i2.toInt = (0 : Int)))) => ?_) (fun (h174 : ¬ (i2.toInt = (0 : Int))) => ?_)
        · refine Own.iconst X101 (v := 0) at_181 rfl ?_
          exact J174_126 _ (Own.bo_f (h174))
        · refine Own.iconst X101 (v := 1) at_177 rfl ?_
          refine Own.goto_ X101 (pc' := 182) at_178 (by decide) ?_
          exact J174_126 _ (Own.bo_t (h174))
      intro z182_126 e_z182_126
      subst e_z182_126
      refine Own.iadd X101 at_182 ?_
      refine Own.istore X101 at_183 (l' := #[.val (.int i0), .val (.int i1), .val (.int i2), .val (.int i3), .val (.double d5), .second, .val (.double d9), .second, .val (.double d17), .second, .val (.int (1 : Int32)), .val (.double d17), .second, .val (.double d5), .second, .val (.ref ts), .val (.int (Own.bo (¬ (i0.toInt = (0 : Int))))), .val (.int (Own.bo (¬ (i1.toInt = (0 : Int))))), .val (.int (Own.bo (¬ (i2.toInt = (0 : Int))))), .val (.int (Own.bo (¬ (i2.toInt = (0 : Int))))), .val (.int (((Own.bo (¬ (i0.toInt = (0 : Int)))) + (Own.bo (¬ (i1.toInt = (0 : Int))))) + (Own.bo (¬ (i2.toInt = (0 : Int)))))), .unset, .unset, .unset, .unset, .unset, .unset, .unset, .unset, .unset, .unset]) rfl ?_
      refine Own.iload X101 at_185 rfl ?_
      suffices J187_127 : ∀ (z200_127 : Int32), z200_127 = Own.bo (¬ (¬ (i2.toInt = (0 : Int))) ∨ (¬ (¬ (i1.toInt = (0 : Int))))) → Own.Go p e below s n0 (fun v _ => v = some (.int 1)) 24 128 (T101.setTop (mkF m 200 #[.val (.int i0), .val (.int i1), .val (.int i2), .val (.int i3), .val (.double d5), .second, .val (.double d9), .second, .val (.double d17), .second, .val (.int (1 : Int32)), .val (.double d17), .second, .val (.double d5), .second, .val (.ref ts), .val (.int (Own.bo (¬ (i0.toInt = (0 : Int))))), .val (.int (Own.bo (¬ (i1.toInt = (0 : Int))))), .val (.int (Own.bo (¬ (i2.toInt = (0 : Int))))), .val (.int (Own.bo (¬ (i2.toInt = (0 : Int))))), .val (.int (((Own.bo (¬ (i0.toInt = (0 : Int)))) + (Own.bo (¬ (i1.toInt = (0 : Int))))) + (Own.bo (¬ (i2.toInt = (0 : Int)))))), .unset, .unset, .unset, .unset, .unset, .unset, .unset, .unset, .unset, .unset] [.int z200_127])) by
        refine Own.ifeqB X101 (pc' := 195) at_187 (by decide) (fun (h187 : ¬ (¬ (i2.toInt = (0 : Int)))) => ?_) (fun (h187 : ¬ (i2.toInt = (0 : Int))) => ?_)
        · refine Own.iconst X101 (v := 1) at_195 rfl ?_
          refine Own.goto_ X101 (pc' := 200) at_196 (by decide) ?_
          exact J187_127 _ (Own.bo_t (Or.inl h187))
        · refine Own.iload X101 at_190 rfl ?_
          refine Own.ifneB X101 (pc' := 199) at_192 (by decide) (fun (h192 : ¬ (i1.toInt = (0 : Int))) => ?_) (fun (h192 : ¬ (¬ (i1.toInt = (0 : Int)))) => ?_)
          · refine Own.iconst X101 (v := 0) at_199 rfl ?_
            exact J187_127 _ (Own.bo_f (fun q => q.elim (fun z => z h187) (fun q => q h192)))
          · refine Own.iconst X101 (v := 1) at_195 rfl ?_
            refine Own.goto_ X101 (pc' := 200) at_196 (by decide) ?_
            exact J187_127 _ (Own.bo_t (Or.inr (h192)))
      intro z200_127 e_z200_127
      subst e_z200_127
      refine Own.istore X101 at_200 (l' := #[.val (.int i0), .val (.int i1), .val (.int i2), .val (.int i3), .val (.double d5), .second, .val (.double d9), .second, .val (.double d17), .second, .val (.int (1 : Int32)), .val (.double d17), .second, .val (.double d5), .second, .val (.ref ts), .val (.int (Own.bo (¬ (i0.toInt = (0 : Int))))), .val (.int (Own.bo (¬ (i1.toInt = (0 : Int))))), .val (.int (Own.bo (¬ (i2.toInt = (0 : Int))))), .val (.int (Own.bo (¬ (i2.toInt = (0 : Int))))), .val (.int (((Own.bo (¬ (i0.toInt = (0 : Int)))) + (Own.bo (¬ (i1.toInt = (0 : Int))))) + (Own.bo (¬ (i2.toInt = (0 : Int)))))), .val (.int (Own.bo (¬ (¬ (i2.toInt = (0 : Int))) ∨ (¬ (¬ (i1.toInt = (0 : Int))))))), .unset, .unset, .unset, .unset, .unset, .unset, .unset, .unset, .unset]) rfl ?_
      refine Own.iload X101 at_202 rfl ?_
      refine Own.iconst X101 (v := 1) at_204 rfl ?_
      suffices J205_128 : ∀ (z213_128 : Int32), z213_128 = Own.bo (¬ ((1 : Int) < (((Own.bo (¬ (i0.toInt = (0 : Int)))) + (Own.bo (¬ (i1.toInt = (0 : Int))))) + (Own.bo (¬ (i2.toInt = (0 : Int))))).toInt)) → Own.Go p e below s n0 (fun v _ => v = some (.int 1)) 24 128 (T101.setTop (mkF m 213 #[.val (.int i0), .val (.int i1), .val (.int i2), .val (.int i3), .val (.double d5), .second, .val (.double d9), .second, .val (.double d17), .second, .val (.int (1 : Int32)), .val (.double d17), .second, .val (.double d5), .second, .val (.ref ts), .val (.int (Own.bo (¬ (i0.toInt = (0 : Int))))), .val (.int (Own.bo (¬ (i1.toInt = (0 : Int))))), .val (.int (Own.bo (¬ (i2.toInt = (0 : Int))))), .val (.int (Own.bo (¬ (i2.toInt = (0 : Int))))), .val (.int (((Own.bo (¬ (i0.toInt = (0 : Int)))) + (Own.bo (¬ (i1.toInt = (0 : Int))))) + (Own.bo (¬ (i2.toInt = (0 : Int)))))), .val (.int (Own.bo (¬ (¬ (i2.toInt = (0 : Int))) ∨ (¬ (¬ (i1.toInt = (0 : Int))))))), .unset, .unset, .unset, .unset, .unset, .unset, .unset, .unset, .unset] [.int z213_128])) by
        refine Own.icmp_ X101 (pc' := 212) at_205 (by decide) (fun (h205 : (1 : Int) < (((Own.bo (¬ (i0.toInt = (0 : Int)))) + (Own.bo (¬ (i1.toInt = (0 : Int))))) + (Own.bo (¬ (i2.toInt = (0 : Int))))).toInt) => ?_) (fun (h205 : ¬ ((1 : Int) < (((Own.bo (¬ (i0.toInt = (0 : Int)))) + (Own.bo (¬ (i1.toInt = (0 : Int))))) + (Own.bo (¬ (i2.toInt = (0 : Int))))).toInt)) => ?_)
        · refine Own.iconst X101 (v := 0) at_212 rfl ?_
          exact J205_128 _ (Own.bo_f (fun q => q h205))
        · refine Own.iconst X101 (v := 1) at_208 rfl ?_
          refine Own.goto_ X101 (pc' := 213) at_209 (by decide) ?_
          exact J205_128 _ (Own.bo_t (h205))
      intro z213_128 e_z213_128
      subst e_z213_128
      refine Own.istore X101 at_213 (l' := #[.val (.int i0), .val (.int i1), .val (.int i2), .val (.int i3), .val (.double d5), .second, .val (.double d9), .second, .val (.double d17), .second, .val (.int (1 : Int32)), .val (.double d17), .second, .val (.double d5), .second, .val (.ref ts), .val (.int (Own.bo (¬ (i0.toInt = (0 : Int))))), .val (.int (Own.bo (¬ (i1.toInt = (0 : Int))))), .val (.int (Own.bo (¬ (i2.toInt = (0 : Int))))), .val (.int (Own.bo (¬ (i2.toInt = (0 : Int))))), .val (.int (((Own.bo (¬ (i0.toInt = (0 : Int)))) + (Own.bo (¬ (i1.toInt = (0 : Int))))) + (Own.bo (¬ (i2.toInt = (0 : Int)))))), .val (.int (Own.bo (¬ (¬ (i2.toInt = (0 : Int))) ∨ (¬ (¬ (i1.toInt = (0 : Int))))))), .val (.int (Own.bo (¬ ((1 : Int) < (((Own.bo (¬ (i0.toInt = (0 : Int)))) + (Own.bo (¬ (i1.toInt = (0 : Int))))) + (Own.bo (¬ (i2.toInt = (0 : Int))))).toInt)))), .unset, .unset, .unset, .unset, .unset, .unset, .unset, .unset]) rfl ?_
      refine Own.iload X101 at_215 rfl ?_
      suffices J217_129 : ∀ (z237_129 : UInt64), z237_129 = (if ¬ (i0.toInt = (0 : Int)) then d5 else (if ¬ (i1.toInt = (0 : Int)) then d9 else d17)) → Own.Go p e below s n0 (fun v _ => v = some (.int 1)) 24 128 (T101.setTop (mkF m 237 #[.val (.int i0), .val (.int i1), .val (.int i2), .val (.int i3), .val (.double d5), .second, .val (.double d9), .second, .val (.double d17), .second, .val (.int (1 : Int32)), .val (.double d17), .second, .val (.double d5), .second, .val (.ref ts), .val (.int (Own.bo (¬ (i0.toInt = (0 : Int))))), .val (.int (Own.bo (¬ (i1.toInt = (0 : Int))))), .val (.int (Own.bo (¬ (i2.toInt = (0 : Int))))), .val (.int (Own.bo (¬ (i2.toInt = (0 : Int))))), .val (.int (((Own.bo (¬ (i0.toInt = (0 : Int)))) + (Own.bo (¬ (i1.toInt = (0 : Int))))) + (Own.bo (¬ (i2.toInt = (0 : Int)))))), .val (.int (Own.bo (¬ (¬ (i2.toInt = (0 : Int))) ∨ (¬ (¬ (i1.toInt = (0 : Int))))))), .val (.int (Own.bo (¬ ((1 : Int) < (((Own.bo (¬ (i0.toInt = (0 : Int)))) + (Own.bo (¬ (i1.toInt = (0 : Int))))) + (Own.bo (¬ (i2.toInt = (0 : Int))))).toInt)))), .unset, .unset, .unset, .unset, .unset, .unset, .unset, .unset] [.double z237_129])) by
        refine Own.ifeqB X101 (pc' := 225) at_217 (by decide) (fun (h217 : ¬ (¬ (i0.toInt = (0 : Int)))) => ?_) (fun (h217 : ¬ (i0.toInt = (0 : Int))) => ?_)
        · refine Own.iload X101 at_225 rfl ?_
          refine Own.ifeqB X101 (pc' := 235) at_227 (by decide) (fun (h227 : ¬ (¬ (i1.toInt = (0 : Int)))) => ?_) (fun (h227 : ¬ (i1.toInt = (0 : Int))) => ?_)
          · refine Own.dload X101 at_235 rfl ?_
            exact J217_129 _ ((if_neg h217).trans (if_neg h227)).symm
          · refine Own.dload X101 at_230 rfl ?_
            refine Own.goto_ X101 (pc' := 237) at_232 (by decide) ?_
            exact J217_129 _ ((if_neg h217).trans (if_pos h227)).symm
        · refine Own.dload X101 at_220 rfl ?_
          refine Own.goto_ X101 (pc' := 237) at_222 (by decide) ?_
          exact J217_129 _ (if_pos h217).symm
      intro xp e_xp
      have n_xp : NoNaN64 xp := by rw [e_xp]; split; assumption; split <;> assumption
      have x_xp : (i0.toInt ≠ 0 → Own.dz xp = Own.dz d5) ∧ (i0.toInt = 0 → i1.toInt ≠ 0 → Own.dz xp = Own.dz d9) ∧ (i0.toInt = 0 → i1.toInt = 0 → Own.dz xp = Own.dz d17) := by rw [e_xp]; exact ⟨fun q => by rw [if_pos q], fun q z => by rw [if_neg (fun w => w q), if_pos z], fun q z => by rw [if_neg (fun w => w q), if_neg (fun w => w z)]⟩
      refine Own.dstore X101 at_237 (l' := #[.val (.int i0), .val (.int i1), .val (.int i2), .val (.int i3), .val (.double d5), .second, .val (.double d9), .second, .val (.double d17), .second, .val (.int (1 : Int32)), .val (.double d17), .second, .val (.double d5), .second, .val (.ref ts), .val (.int (Own.bo (¬ (i0.toInt = (0 : Int))))), .val (.int (Own.bo (¬ (i1.toInt = (0 : Int))))), .val (.int (Own.bo (¬ (i2.toInt = (0 : Int))))), .val (.int (Own.bo (¬ (i2.toInt = (0 : Int))))), .val (.int (((Own.bo (¬ (i0.toInt = (0 : Int)))) + (Own.bo (¬ (i1.toInt = (0 : Int))))) + (Own.bo (¬ (i2.toInt = (0 : Int)))))), .val (.int (Own.bo (¬ (¬ (i2.toInt = (0 : Int))) ∨ (¬ (¬ (i1.toInt = (0 : Int))))))), .val (.int (Own.bo (¬ ((1 : Int) < (((Own.bo (¬ (i0.toInt = (0 : Int)))) + (Own.bo (¬ (i1.toInt = (0 : Int))))) + (Own.bo (¬ (i2.toInt = (0 : Int))))).toInt)))), .val (.double xp), .second, .unset, .unset, .unset, .unset, .unset, .unset]) rfl ?_
      refine Own.aload X101 at_239 rfl rfl ?_
      refine Own.iconst X101 (v := 0) at_241 rfl ?_
      refine Own.callV_ (y := mn_7) (z := mn_7) (a := ts) X101 at_242 (Own.wd hw 43 rfl) (Own.wd hw 44 rfl) (Own.wd hw 46 rfl) (Own.wd hw 45 rfl) rfl (Own.wd hw 4 rfl) (Own.wd hw 47 rfl) (by decide) F102 (rm8_0 l Z a0 hw ts rb_66_74 rc_66_74 k_rb_66_74 k_rc_66_74 0 t1 t2 t3_101_101 (.null) (.null) (.ref ow) h101 n0 Z106 F104 F105 G101_1 G101_2 Own.nn_0 ) (lenOf pd_18 rfl) rfl (argsL := [.int (0 : Int32)]) (rest := []) rfl (W := 0) (Nat.le_of_eq rfl) (by decide) (by decide) (by decide) (by decide) fun T130 h130 v130 X130 q130 => ?_
      obtain ⟨rfl, rfl⟩ := q130
      show Own.Go p e below s n0 _ _ _ (T130.setTop (mkF m 245 _ [.int (Own.bo (Own.dz 0 = Own.dz 0))]))
      refine Own.istore X130 at_245 (l' := #[.val (.int i0), .val (.int i1), .val (.int i2), .val (.int i3), .val (.double d5), .second, .val (.double d9), .second, .val (.double d17), .second, .val (.int (1 : Int32)), .val (.double d17), .second, .val (.double d5), .second, .val (.ref ts), .val (.int (Own.bo (¬ (i0.toInt = (0 : Int))))), .val (.int (Own.bo (¬ (i1.toInt = (0 : Int))))), .val (.int (Own.bo (¬ (i2.toInt = (0 : Int))))), .val (.int (Own.bo (¬ (i2.toInt = (0 : Int))))), .val (.int (((Own.bo (¬ (i0.toInt = (0 : Int)))) + (Own.bo (¬ (i1.toInt = (0 : Int))))) + (Own.bo (¬ (i2.toInt = (0 : Int)))))), .val (.int (Own.bo (¬ (¬ (i2.toInt = (0 : Int))) ∨ (¬ (¬ (i1.toInt = (0 : Int))))))), .val (.int (Own.bo (¬ ((1 : Int) < (((Own.bo (¬ (i0.toInt = (0 : Int)))) + (Own.bo (¬ (i1.toInt = (0 : Int))))) + (Own.bo (¬ (i2.toInt = (0 : Int))))).toInt)))), .val (.double xp), .second, .val (.int (Own.bo (Own.dz 0 = Own.dz 0))), .unset, .unset, .unset, .unset, .unset]) rfl ?_
      refine Own.aload X130 at_247 rfl rfl ?_
      refine Own.iconst X130 (v := 1) at_249 rfl ?_
      refine Own.callV_ (y := mn_7) (z := mn_7) (a := ts) X130 at_250 (Own.wd hw 43 rfl) (Own.wd hw 44 rfl) (Own.wd hw 46 rfl) (Own.wd hw 45 rfl) rfl (Own.wd hw 4 rfl) (Own.wd hw 47 rfl) (by decide) F102 (rm8_1 l Z a0 hw ts rb_66_74 rc_66_74 k_rb_66_74 k_rc_66_74 0 t1 t2 t3_101_101 (.null) (.null) (.ref ow) h101 n0 Z106 F104 F105 G101_1 G101_2 n_t1 ) (lenOf pd_18 rfl) rfl (argsL := [.int (1 : Int32)]) (rest := []) rfl (W := 0) (Nat.le_of_eq rfl) (by decide) (by decide) (by decide) (by decide) fun T131 h131 v131 X131 q131 => ?_
      obtain ⟨rfl, rfl⟩ := q131
      show Own.Go p e below s n0 _ _ _ (T131.setTop (mkF m 253 _ [.int (Own.bo (Own.dz t1 = Own.dz 0))]))
      refine Own.istore X131 at_253 (l' := #[.val (.int i0), .val (.int i1), .val (.int i2), .val (.int i3), .val (.double d5), .second, .val (.double d9), .second, .val (.double d17), .second, .val (.int (1 : Int32)), .val (.double d17), .second, .val (.double d5), .second, .val (.ref ts), .val (.int (Own.bo (¬ (i0.toInt = (0 : Int))))), .val (.int (Own.bo (¬ (i1.toInt = (0 : Int))))), .val (.int (Own.bo (¬ (i2.toInt = (0 : Int))))), .val (.int (Own.bo (¬ (i2.toInt = (0 : Int))))), .val (.int (((Own.bo (¬ (i0.toInt = (0 : Int)))) + (Own.bo (¬ (i1.toInt = (0 : Int))))) + (Own.bo (¬ (i2.toInt = (0 : Int)))))), .val (.int (Own.bo (¬ (¬ (i2.toInt = (0 : Int))) ∨ (¬ (¬ (i1.toInt = (0 : Int))))))), .val (.int (Own.bo (¬ ((1 : Int) < (((Own.bo (¬ (i0.toInt = (0 : Int)))) + (Own.bo (¬ (i1.toInt = (0 : Int))))) + (Own.bo (¬ (i2.toInt = (0 : Int))))).toInt)))), .val (.double xp), .second, .val (.int (Own.bo (Own.dz 0 = Own.dz 0))), .val (.int (Own.bo (Own.dz t1 = Own.dz 0))), .unset, .unset, .unset, .unset]) rfl ?_
      refine Own.aload X131 at_255 rfl rfl ?_
      refine Own.iconst X131 (v := 2) at_257 rfl ?_
      refine Own.callV_ (y := mn_7) (z := mn_7) (a := ts) X131 at_258 (Own.wd hw 43 rfl) (Own.wd hw 44 rfl) (Own.wd hw 46 rfl) (Own.wd hw 45 rfl) rfl (Own.wd hw 4 rfl) (Own.wd hw 47 rfl) (by decide) F102 (rm8_2 l Z a0 hw ts rb_66_74 rc_66_74 k_rb_66_74 k_rc_66_74 0 t1 t2 t3_101_101 (.null) (.null) (.ref ow) h101 n0 Z106 F104 F105 G101_1 G101_2 n_t2 ) (lenOf pd_18 rfl) rfl (argsL := [.int (2 : Int32)]) (rest := []) rfl (W := 0) (Nat.le_of_eq rfl) (by decide) (by decide) (by decide) (by decide) fun T132 h132 v132 X132 q132 => ?_
      obtain ⟨rfl, rfl⟩ := q132
      show Own.Go p e below s n0 _ _ _ (T132.setTop (mkF m 261 _ [.int (Own.bo (Own.dz t2 = Own.dz 0))]))
      refine Own.istore X132 at_261 (l' := #[.val (.int i0), .val (.int i1), .val (.int i2), .val (.int i3), .val (.double d5), .second, .val (.double d9), .second, .val (.double d17), .second, .val (.int (1 : Int32)), .val (.double d17), .second, .val (.double d5), .second, .val (.ref ts), .val (.int (Own.bo (¬ (i0.toInt = (0 : Int))))), .val (.int (Own.bo (¬ (i1.toInt = (0 : Int))))), .val (.int (Own.bo (¬ (i2.toInt = (0 : Int))))), .val (.int (Own.bo (¬ (i2.toInt = (0 : Int))))), .val (.int (((Own.bo (¬ (i0.toInt = (0 : Int)))) + (Own.bo (¬ (i1.toInt = (0 : Int))))) + (Own.bo (¬ (i2.toInt = (0 : Int)))))), .val (.int (Own.bo (¬ (¬ (i2.toInt = (0 : Int))) ∨ (¬ (¬ (i1.toInt = (0 : Int))))))), .val (.int (Own.bo (¬ ((1 : Int) < (((Own.bo (¬ (i0.toInt = (0 : Int)))) + (Own.bo (¬ (i1.toInt = (0 : Int))))) + (Own.bo (¬ (i2.toInt = (0 : Int))))).toInt)))), .val (.double xp), .second, .val (.int (Own.bo (Own.dz 0 = Own.dz 0))), .val (.int (Own.bo (Own.dz t1 = Own.dz 0))), .val (.int (Own.bo (Own.dz t2 = Own.dz 0))), .unset, .unset, .unset]) rfl ?_
      refine Own.aload X132 at_263 rfl rfl ?_
      refine Own.iconst X132 (v := 3) at_265 rfl ?_
      refine Own.callV_ (y := mn_7) (z := mn_7) (a := ts) X132 at_266 (Own.wd hw 43 rfl) (Own.wd hw 44 rfl) (Own.wd hw 46 rfl) (Own.wd hw 45 rfl) rfl (Own.wd hw 4 rfl) (Own.wd hw 47 rfl) (by decide) F102 (rm8_3r l Z a0 hw ts rb_66_74 rc_66_74 k_rb_66_74 k_rc_66_74 0 t1 t2 t3_101_101 (.null) (.null) (.null) ow h101 n0 Z106 F104 F105 G101_1 G101_2 n_t3_101_101 ) (lenOf pd_18 rfl) rfl (argsL := [.int (3 : Int32)]) (rest := []) rfl (W := 0) (Nat.le_of_eq rfl) (by decide) (by decide) (by decide) (by decide) fun T133 h133 v133 X133 q133 => ?_
      obtain ⟨rfl, rfl⟩ := q133
      show Own.Go p e below s n0 _ _ _ (T133.setTop (mkF m 269 _ [.int (0 : Int32)]))
      refine Own.istore X133 at_269 (l' := #[.val (.int i0), .val (.int i1), .val (.int i2), .val (.int i3), .val (.double d5), .second, .val (.double d9), .second, .val (.double d17), .second, .val (.int (1 : Int32)), .val (.double d17), .second, .val (.double d5), .second, .val (.ref ts), .val (.int (Own.bo (¬ (i0.toInt = (0 : Int))))), .val (.int (Own.bo (¬ (i1.toInt = (0 : Int))))), .val (.int (Own.bo (¬ (i2.toInt = (0 : Int))))), .val (.int (Own.bo (¬ (i2.toInt = (0 : Int))))), .val (.int (((Own.bo (¬ (i0.toInt = (0 : Int)))) + (Own.bo (¬ (i1.toInt = (0 : Int))))) + (Own.bo (¬ (i2.toInt = (0 : Int)))))), .val (.int (Own.bo (¬ (¬ (i2.toInt = (0 : Int))) ∨ (¬ (¬ (i1.toInt = (0 : Int))))))), .val (.int (Own.bo (¬ ((1 : Int) < (((Own.bo (¬ (i0.toInt = (0 : Int)))) + (Own.bo (¬ (i1.toInt = (0 : Int))))) + (Own.bo (¬ (i2.toInt = (0 : Int))))).toInt)))), .val (.double xp), .second, .val (.int (Own.bo (Own.dz 0 = Own.dz 0))), .val (.int (Own.bo (Own.dz t1 = Own.dz 0))), .val (.int (Own.bo (Own.dz t2 = Own.dz 0))), .val (.int (0 : Int32)), .unset, .unset]) rfl ?_
      refine Own.aload X133 at_271 rfl rfl ?_
      refine Own.iconst X133 (v := 3) at_273 rfl ?_
      refine Own.callV_ (y := mn_6) (z := mn_6) (a := ts) X133 at_274 (Own.wd hw 48 rfl) (Own.wd hw 49 rfl) (Own.wd hw 51 rfl) (Own.wd hw 50 rfl) rfl (Own.wd hw 4 rfl) (Own.wd hw 52 rfl) (by decide) F102 (rm9_3 l Z a0 hw ts ra_66_74 k_ra_66_74 0 v1 v2 w3_101_101 h101 n0 Z106 F103 G101_0 ) (lenOf pd_19 rfl) rfl (argsL := [.int (3 : Int32)]) (rest := []) rfl (W := 0) (Nat.le_of_eq rfl) (by decide) (by decide) (by decide) (by decide) fun T134 h134 v134 X134 q134 => ?_
      obtain ⟨rfl, rfl⟩ := q134
      show Own.Go p e below s n0 _ _ _ (T134.setTop (mkF m 277 _ [.double w3_101_101]))
      refine Own.dstore X134 at_277 (l' := #[.val (.int i0), .val (.int i1), .val (.int i2), .val (.int i3), .val (.double d5), .second, .val (.double d9), .second, .val (.double d17), .second, .val (.int (1 : Int32)), .val (.double d17), .second, .val (.double d5), .second, .val (.ref ts), .val (.int (Own.bo (¬ (i0.toInt = (0 : Int))))), .val (.int (Own.bo (¬ (i1.toInt = (0 : Int))))), .val (.int (Own.bo (¬ (i2.toInt = (0 : Int))))), .val (.int (Own.bo (¬ (i2.toInt = (0 : Int))))), .val (.int (((Own.bo (¬ (i0.toInt = (0 : Int)))) + (Own.bo (¬ (i1.toInt = (0 : Int))))) + (Own.bo (¬ (i2.toInt = (0 : Int)))))), .val (.int (Own.bo (¬ (¬ (i2.toInt = (0 : Int))) ∨ (¬ (¬ (i1.toInt = (0 : Int))))))), .val (.int (Own.bo (¬ ((1 : Int) < (((Own.bo (¬ (i0.toInt = (0 : Int)))) + (Own.bo (¬ (i1.toInt = (0 : Int))))) + (Own.bo (¬ (i2.toInt = (0 : Int))))).toInt)))), .val (.double xp), .second, .val (.int (Own.bo (Own.dz 0 = Own.dz 0))), .val (.int (Own.bo (Own.dz t1 = Own.dz 0))), .val (.int (Own.bo (Own.dz t2 = Own.dz 0))), .val (.int (0 : Int32)), .val (.double w3_101_101), .second]) rfl ?_
      refine Own.iload X134 at_279 rfl ?_
      refine Own.ifeqB X134 (pc' := 315) at_281 (by decide) (fun q => absurd (show ¬ (Own.dz 0 = Own.dz 0) from q) (show ¬ (¬ (Own.dz 0 = Own.dz 0)) from fun z => z (rfl))) (fun _ => ?_)
      refine Own.iload X134 at_284 rfl ?_
      refine Own.ifeqB X134 (pc' := 315) at_286 (by decide) (fun q => absurd (show ¬ (Own.dz t1 = Own.dz 0) from q) (show ¬ (¬ (Own.dz t1 = Own.dz 0)) from fun z => z (z_t1.trans Own.dz_0.symm))) (fun _ => ?_)
      refine Own.iload X134 at_289 rfl ?_
      refine Own.iload X134 at_291 rfl ?_
      refine Own.icmpneB (P := Own.dz t2 = Own.dz 0) (P' := ¬ (¬ (i2.toInt = (0 : Int))) ∨ (¬ (¬ (i1.toInt = (0 : Int))))) X134 (pc' := 315) at_293 (by decide) (fun q => absurd (show ¬ ((Own.dz t2 = Own.dz 0) ↔ (¬ (¬ (i2.toInt = (0 : Int))) ∨ (¬ (¬ (i1.toInt = (0 : Int)))))) from q) (show ¬ (¬ ((Own.dz t2 = Own.dz 0) ↔ (¬ (¬ (i2.toInt = (0 : Int))) ∨ (¬ (¬ (i1.toInt = (0 : Int))))))) from fun z => z (by rw [Own.dz_0]; exact own_x2b KK k2))) (fun _ => ?_)
      refine Own.iload X134 at_296 rfl ?_
      refine Own.iload X134 at_298 rfl ?_
      refine Own.icmpneB (P := False) (P' := ¬ ((1 : Int) < (((Own.bo (¬ (i0.toInt = (0 : Int)))) + (Own.bo (¬ (i1.toInt = (0 : Int))))) + (Own.bo (¬ (i2.toInt = (0 : Int))))).toInt)) X134 (pc' := 315) at_300 (by decide) (fun q => absurd (show ¬ ((False) ↔ (¬ ((1 : Int) < (((Own.bo (¬ (i0.toInt = (0 : Int)))) + (Own.bo (¬ (i1.toInt = (0 : Int))))) + (Own.bo (¬ (i2.toInt = (0 : Int))))).toInt))) from q) (show ¬ (¬ ((False) ↔ (¬ ((1 : Int) < (((Own.bo (¬ (i0.toInt = (0 : Int)))) + (Own.bo (¬ (i1.toInt = (0 : Int))))) + (Own.bo (¬ (i2.toInt = (0 : Int))))).toInt)))) from fun z => z (⟨fun q => q.elim, fun q => absurd ((own_cnt _ _ _).mpr (Or.inl ⟨g1.1, g1.2.1⟩)) q⟩))) (fun _ => ?_)
      refine Own.dload X134 at_303 rfl ?_
      refine Own.dload X134 at_305 rfl ?_
      refine Own.dcmpF X134 (pc' := 315) at_307 at_308 (by decide) n_w3_101_101 n_xp (fun q => absurd (show ¬ (Own.dz w3_101_101 = Own.dz xp) from q) (show ¬ (¬ (Own.dz w3_101_101 = Own.dz xp)) from fun z => z (g5.trans (x_xp.1 g1.1).symm))) (fun _ => ?_)
      refine Own.iconst X134 (v := 1) at_311 rfl ?_
      refine Own.goto_ X134 (pc' := 316) at_312 (by decide) ?_
      exact Own.retB X134 at_316 (by decide) rfl (by decide) (by decide)
set_option maxRecDepth 65536 in
set_option maxHeartbeats 40000000 in
theorem comes_1 {Post : Tables → Env → Array Value → State → Outcome → State → Prop} (hpost : ∀ tb e args s v u, (limb_1_1.after args s (.returned v) u = true ∧ limb_1_2.after args s (.returned v) u = true ∧ True) → FrameEnd s (.returned v) u (Jvm.fieldLocs frame_1_writes args s ++ Jvm.arrayLocs frame_1_arrays args s ++ Jvm.staticLocs frame_1_statics s) 24 128 → Post tb e args s (.returned v) u) :
    ArmFor flags0 classFile x code maxLocals ret World_1 tables_1 room_1 Calls_1 rest_1 Pre_1 Post := by
  intro l hfl _ _ p e ha hc hk s m args below hf hA hF happ hP
  obtain ⟨hcalls, hrest, hpre⟩ := hP
  obtain ⟨-, -, -, hnamed, -, -, -, hat⟩ := (Spec.applies_iff hf).mp happ
  obtain ⟨hg, hn⟩ := and_e (Cond.before_iff.mp (show (Jvm.Cond.and given_1 narrow_1).before args s = true from hpre))
  obtain ⟨g0, gs1⟩ := and_e hg
  obtain ⟨g1, gs2⟩ := and_e gs1
  obtain ⟨g2, gs3⟩ := and_e gs2
  obtain ⟨g3, gs4⟩ := and_e gs3
  have g4 := gs4
  obtain ⟨w0, w1, w2, w3, rfl⟩ : ∃ w0 w1 w2 w3 : Value, args = #[w0, w1, w2, w3] := by
    have hs : args.size = 4 := by simpa [Cond.value, given_1] using g0
    obtain ⟨L⟩ := args
    match L, hs with
    | [w0, w1, w2, w3], _ => exact ⟨w0, w1, w2, w3, rfl⟩
  have hw := fun d (hd : d ∈ tables_1) => atoms_spec (ws := Jvm.Cond.code x code maxLocals ret :: tables_1) hat d (List.mem_cons_of_mem _ hd)
  obtain ⟨i0, ei0⟩ := is_v g1
  obtain rfl : w0 = (.int i0) := Option.some.inj ei0
  obtain ⟨i1, ei1⟩ := is_v g2
  obtain rfl : w1 = (.int i1) := Option.some.inj ei1
  obtain ⟨i2, ei2⟩ := is_v g3
  obtain rfl : w2 = (.int i2) := Option.some.inj ei2
  obtain ⟨i3, ei3⟩ := is_v g4
  obtain rfl : w3 = (.int i3) := Option.some.inj ei3
  obtain ⟨n, o, h1, h2, h3, v, L, rfl, ⟨hQ, N⟩, hq⟩ := rm0 l s _ hw i0 i1 i2 i3 s.heap s.heap.size (Nat.le_refl _)  p e ha hc hk s m _ below hf ((Spec.applies_iff_loose hf).mp happ).1 ⟨rfl, State.Warmed39.refl s, rfl⟩ trivial
  obtain rfl := hQ
  refine ⟨n, _, h1, h2, h3, hpost _ _ _ _ _ _ ⟨Cond.after_iff.mpr rfl, Cond.after_iff.mpr (eq_i res_at (Term.int_eval (1)) rfl), trivial⟩ ⟨hq.1, hq.2.1, (hq.2.2.sift fun y hy => Or.inr (N y hy)).mono (by decide) (by decide)⟩⟩
theorem main_1_1 : Claimed_1_1 := comes_1 fun _ _ _ _ _ _ h hF => ⟨h.1, hF⟩
theorem main_1_2 : Claimed_1_2 := comes_1 fun _ _ _ _ _ _ h hF => ⟨h.2.1, hF⟩

end Jvm.Pilot.@@N@@
namespace Jvm.Pilot.@@N@@
open Jvm Jvm.ClassFile Sem Op Lib Jvm.Free Jvm.Stand Jvm.Pilot.@@N@@.Jvm.D
/-! MADE BY PROGRAM (witnessworld.py) out of the Statement's table words and the real class files: 19 classes; the members and pool entries that the words name. The judged class is class 1, her method 1. -/
namespace start1
open Jvm.ClassFile
def u (s : String) : CpInfo := .utf8 (stringToUtf16 s)
/-- a pool by its gaps: so many unusable entries, then the entry; so many at the end -/
def gap : Nat → List CpInfo → List CpInfo
  | 0, r => r
  | n + 1, r => .unusable :: gap n r
def poolList (es : List (Nat × CpInfo)) (last : Nat) : List CpInfo := es.foldr (fun e r => gap e.1 (e.2 :: r)) (gap last [])
def pool (es : List (Nat × CpInfo)) (last : Nat) : Array CpInfo := ⟨poolList es last⟩
def fileOf (pool : Array CpInfo) (this : Nat) (attrs : Array Attribute := #[]) (ms : Array MethodInfo := #[]) (fl : Nat := 33) (sup : Nat := 0) (ifs : Array Nat := #[]) (fds : Array FieldInfo := #[]) : ClassFile where
  minorVersion := 0
  majorVersion := 65
  constantPool := pool
  accessFlags := fl
  thisClass := this
  superClass := sup
  interfaces := ifs
  fields := fds
  methods := ms
  attributes := attrs
def plain (name : String) (sup : Option ClassId) : Class where
  name := name
  kind := .ordinary
  loader := none
  accessFlags := 33
  super := sup
  interfaces := #[]
  cf := none
  fields := #[]
  methods := #[]
  instanceTypes := #[]
  staticTypes := #[]
  resolved := #[]
  callSites := []
  init := .initialized
  statics := none
  mirror := none

def pool0 : Array CpInfo := pool [(5, u "<init>"), (0, u "()V"), (1, .class_ 10), (1, u "java/lang/Object")] 113

def k0c0 : Code := { maxStack := 0, maxLocals := 1, code := object_method_1_code, exceptionTable := #[], attributes := #[] }
def k0m0 : Method := { name := "<init>", desc := "()V", sig := { parameters := [], returnType := none }, accessFlags := 1, code := some k0c0 }
/-- java/lang/Object -/
def k0 : Class := { plain "java/lang/Object" none with
  accessFlags := 33
  interfaces := #[]
  cf := some (fileOf pool0 8 #[] #[{ accessFlags := 1, nameIndex := 5, descriptorIndex := 6, attributes := #[] }] 33 0 #[] #[])
  fields := #[]
  methods := #[k0m0]
  instanceTypes := #[]
  staticTypes := #[]
  resolved := Array.replicate 124 none
  statics := none }

def pool1 : Array CpInfo := pool [(2, .class_ 4), (1, u "java/lang/Object"), (0, u "<init>"), (0, u "()V"), (0, .double 5147614374084476928), (1, .double 4066750463515557888), (1, .class_ 12), (0, u "com/example/rainyday/rainyday/ExactSum$TreeSums"), (0, .methodref 11 14), (0, .nameAndType 5 15), (0, u "(I)V"), (0, .methodref 11 17), (0, .nameAndType 18 15), (0, u "zero"), (0, .methodref 11 20), (0, .nameAndType 21 22), (0, u "extend"), (0, u "(IID)V"), (0, .methodref 11 24), (0, .nameAndType 25 26), (0, u "isExact"), (0, u "(I)Z"), (0, .methodref 11 28), (0, .nameAndType 29 30), (0, u "value"), (0, u "(I)D"), (0, .class_ 32), (0, u "com/example/rainyday/rainyday/TreeSumsIsExactPinLaw"), (2, u "law"), (0, u "(IIII)Z")] 7

def k1m0 : Method := { name := "<init>", desc := "()V", sig := { parameters := [], returnType := none }, accessFlags := 2, code := none }
def k1c1 : Code := { maxStack := 5, maxLocals := 31, code := code, exceptionTable := #[], attributes := #[] }
def k1m1 : Method := { name := "law", desc := "(IIII)Z", sig := { parameters := [.int, .int, .int, .int], returnType := some .boolean }, accessFlags := 9, code := some k1c1 }
/-- com/example/rainyday/rainyday/TreeSumsIsExactPinLaw -/
def k1 : Class := { plain "com/example/rainyday/rainyday/TreeSumsIsExactPinLaw" (some 0) with
  accessFlags := 49
  interfaces := #[]
  cf := some (fileOf pool1 31 #[] #[{ accessFlags := 2, nameIndex := 5, descriptorIndex := 6, attributes := #[] }, { accessFlags := 9, nameIndex := 35, descriptorIndex := 36, attributes := #[] }] 49 2 #[] #[])
  fields := #[]
  methods := #[k1m0, k1m1]
  instanceTypes := #[]
  staticTypes := #[]
  resolved := Array.replicate 44 none
  statics := none }

def pool2 : Array CpInfo := pool [(1, .methodref 2 3), (0, .class_ 4), (0, .nameAndType 5 6), (0, u "java/lang/Object"), (0, u "<init>"), (0, u "()V"), (0, .fieldref 8 9), (0, .class_ 10), (0, .nameAndType 11 12), (0, u "com/example/rainyday/rainyday/ExactSum$TreeSums"), (0, u "rounded"), (0, u "[D"), (0, .fieldref 8 14), (0, .nameAndType 15 12), (0, u "rest"), (0, .class_ 17), (0, u "com/example/rainyday/rainyday/ExactSum"), (0, .fieldref 8 19), (0, .nameAndType 20 21), (0, u "wider"), (0, u "[Lcom/example/rainyday/rainyday/ExactSum;"), (0, .methodref 23 24), (0, .class_ 25), (0, .nameAndType 26 27), (0, u "java/lang/Double"), (0, u "isFinite"), (0, u "(D)Z"), (8, .methodref 8 37), (0, .nameAndType 38 39), (0, u "store"), (0, u "(ILcom/example/rainyday/rainyday/ExactSum;)V"), (0, .methodref 16 41), (0, .nameAndType 42 43), (0, u "roundingError"), (0, u "(DDD)D"), (0, .methodref 16 45), (0, .nameAndType 46 47), (0, u "fromParts"), (0, u "([D)Lcom/example/rainyday/rainyday/ExactSum;"), (0, .fieldref 16 49), (0, .nameAndType 50 51), (0, u "value"), (0, u "D"), (0, .fieldref 16 53), (0, .nameAndType 54 12), (0, u "parts"), (3, u "(I)V"), (2, u "zero"), (0, u "extend"), (0, u "(IID)V"), (2, u "(I)D"), (0, u "isExact"), (0, u "(I)Z")] 6

def k2c0 : Code := { maxStack := 2, maxLocals := 2, code := prog_6_method_1_code, exceptionTable := #[], attributes := #[] }
def k2m0 : Method := { name := "<init>", desc := "(I)V", sig := { parameters := [.int], returnType := none }, accessFlags := 0, code := some k2c0 }
def k2c1 : Code := { maxStack := 4, maxLocals := 2, code := prog_6_method_2_code, exceptionTable := #[], attributes := #[] }
def k2m1 : Method := { name := "zero", desc := "(I)V", sig := { parameters := [.int], returnType := none }, accessFlags := 0, code := some k2c1 }
def k2c2 : Code := { maxStack := 8, maxLocals := 21, code := prog_6_method_3_code, exceptionTable := #[], attributes := #[] }
def k2m2 : Method := { name := "extend", desc := "(IID)V", sig := { parameters := [.int, .int, .double], returnType := none }, accessFlags := 0, code := some k2c2 }
def k2c3 : Code := { maxStack := 4, maxLocals := 3, code := prog_6_method_4_code, exceptionTable := #[], attributes := #[] }
def k2m3 : Method := { name := "store", desc := "(ILcom/example/rainyday/rainyday/ExactSum;)V", sig := { parameters := [.int, (.object "com/example/rainyday/rainyday/ExactSum")], returnType := none }, accessFlags := 2, code := some k2c3 }
def k2c4 : Code := { maxStack := 2, maxLocals := 2, code := prog_6_method_5_code, exceptionTable := #[], attributes := #[] }
def k2m4 : Method := { name := "value", desc := "(I)D", sig := { parameters := [.int], returnType := some .double }, accessFlags := 0, code := some k2c4 }
def k2c5 : Code := { maxStack := 4, maxLocals := 2, code := prog_6_method_6_code, exceptionTable := #[], attributes := #[] }
def k2m5 : Method := { name := "isExact", desc := "(I)Z", sig := { parameters := [.int], returnType := some .boolean }, accessFlags := 0, code := some k2c5 }
/-- com/example/rainyday/rainyday/ExactSum$TreeSums -/
def k2 : Class := { plain "com/example/rainyday/rainyday/ExactSum$TreeSums" (some 0) with
  accessFlags := 48
  interfaces := #[]
  cf := some (fileOf pool2 8 #[.nestHost 16] #[{ accessFlags := 0, nameIndex := 5, descriptorIndex := 58, attributes := #[] }, { accessFlags := 0, nameIndex := 61, descriptorIndex := 58, attributes := #[] }, { accessFlags := 0, nameIndex := 62, descriptorIndex := 63, attributes := #[] }, { accessFlags := 2, nameIndex := 38, descriptorIndex := 39, attributes := #[] }, { accessFlags := 0, nameIndex := 50, descriptorIndex := 66, attributes := #[] }, { accessFlags := 0, nameIndex := 67, descriptorIndex := 68, attributes := #[] }] 48 2 #[] #[{ accessFlags := 18, nameIndex := 11, descriptorIndex := 12, attributes := #[] }, { accessFlags := 18, nameIndex := 15, descriptorIndex := 12, attributes := #[] }, { accessFlags := 18, nameIndex := 20, descriptorIndex := 21, attributes := #[] }])
  fields := #[{ name := "rounded", type := (.array .double), accessFlags := 18, slot := 0, constantValue := 0 }, { name := "rest", type := (.array .double), accessFlags := 18, slot := 1, constantValue := 0 }, { name := "wider", type := (.array (.object "com/example/rainyday/rainyday/ExactSum")), accessFlags := 18, slot := 2, constantValue := 0 }]
  methods := #[k2m0, k2m1, k2m2, k2m3, k2m4, k2m5]
  instanceTypes := #[(.array .double), (.array .double), (.array (.object "com/example/rainyday/rainyday/ExactSum"))]
  staticTypes := #[]
  resolved := Array.replicate 75 none
  statics := none }

def pool3 : Array CpInfo := pool [(1, .class_ 2), (0, u "java/lang/Comparable"), (0, .class_ 4), (0, u "java/lang/Object")] 7

/-- java/lang/Comparable -/
def k3 : Class := { plain "java/lang/Comparable" (some 0) with
  accessFlags := 1537
  interfaces := #[]
  cf := some (fileOf pool3 1 #[] #[] 1537 3 #[] #[])
  fields := #[]
  methods := #[]
  instanceTypes := #[]
  staticTypes := #[]
  resolved := Array.replicate 12 none
  statics := none }

def pool4 : Array CpInfo := pool [(1, .methodref 2 3), (0, .class_ 4), (0, .nameAndType 5 6), (0, u "java/lang/Object"), (0, u "<init>"), (0, u "()V"), (0, .fieldref 8 9), (0, .class_ 10), (0, .nameAndType 11 12), (0, u "com/example/rainyday/rainyday/ExactSum"), (0, u "value"), (0, u "D"), (0, .fieldref 8 14), (0, .nameAndType 15 16), (0, u "parts"), (0, u "[D"), (0, .methodref 8 18), (0, .nameAndType 5 19), (0, u "(D[D)V"), (6, .methodref 8 27), (0, .nameAndType 28 29), (0, u "roundingError"), (0, u "(DDD)D"), (6, u "fromParts"), (0, u "([D)Lcom/example/rainyday/rainyday/ExactSum;"), (5, .class_ 45), (1, u "java/lang/Math"), (3, u "ZERO"), (0, u "Lcom/example/rainyday/rainyday/ExactSum;"), (11, .methodref 43 63), (0, .nameAndType 64 65), (0, u "signum"), (0, u "(D)D"), (6, .double 4611686018427387904), (5, .class_ 79), (0, u "java/lang/Comparable"), (15, .class_ 96), (0, u "com/example/rainyday/rainyday/ExactSum$TreeSums")] 2

def k4c0 : Code := { maxStack := 3, maxLocals := 4, code := prog_5_method_1_code, exceptionTable := #[], attributes := #[] }
def k4m0 : Method := { name := "<init>", desc := "(D[D)V", sig := { parameters := [.double, (.array .double)], returnType := none }, accessFlags := 2, code := some k4c0 }
def k4c1 : Code := { maxStack := 6, maxLocals := 10, code := prog_5_method_9_code, exceptionTable := #[], attributes := #[] }
def k4m1 : Method := { name := "roundingError", desc := "(DDD)D", sig := { parameters := [.double, .double, .double], returnType := some .double }, accessFlags := 10, code := some k4c1 }
def k4c2 : Code := { maxStack := 6, maxLocals := 8, code := prog_5_method_11_code, exceptionTable := #[], attributes := #[] }
def k4m2 : Method := { name := "fromParts", desc := "([D)Lcom/example/rainyday/rainyday/ExactSum;", sig := { parameters := [(.array .double)], returnType := some (.object "com/example/rainyday/rainyday/ExactSum") }, accessFlags := 10, code := some k4c2 }
/-- com/example/rainyday/rainyday/ExactSum -/
def k4 : Class := { plain "com/example/rainyday/rainyday/ExactSum" (some 0) with
  accessFlags := 48
  interfaces := #[3]
  cf := some (fileOf pool4 8 #[.nestMembers #[95]] #[{ accessFlags := 2, nameIndex := 5, descriptorIndex := 19, attributes := #[] }, { accessFlags := 10, nameIndex := 28, descriptorIndex := 29, attributes := #[] }, { accessFlags := 10, nameIndex := 36, descriptorIndex := 37, attributes := #[] }] 48 2 #[78] #[{ accessFlags := 24, nameIndex := 49, descriptorIndex := 50, attributes := #[] }, { accessFlags := 18, nameIndex := 11, descriptorIndex := 12, attributes := #[] }, { accessFlags := 18, nameIndex := 15, descriptorIndex := 16, attributes := #[] }])
  fields := #[{ name := "ZERO", type := (.object "com/example/rainyday/rainyday/ExactSum"), accessFlags := 24, slot := 0, constantValue := 0 }, { name := "value", type := .double, accessFlags := 18, slot := 0, constantValue := 0 }, { name := "parts", type := (.array .double), accessFlags := 18, slot := 1, constantValue := 0 }]
  methods := #[k4m0, k4m1, k4m2]
  instanceTypes := #[.double, (.array .double)]
  staticTypes := #[(.object "com/example/rainyday/rainyday/ExactSum")]
  resolved := Array.replicate 99 none
  statics := none }

def pool5 : Array CpInfo := pool [(1, .class_ 2), (0, u "java/io/Serializable"), (0, .class_ 4), (0, u "java/lang/Object")] 2

/-- java/io/Serializable -/
def k5 : Class := { plain "java/io/Serializable" (some 0) with
  accessFlags := 1537
  interfaces := #[]
  cf := some (fileOf pool5 1 #[] #[] 1537 3 #[] #[])
  fields := #[]
  methods := #[]
  instanceTypes := #[]
  staticTypes := #[]
  resolved := Array.replicate 7 none
  statics := none }

def pool6 : Array CpInfo := pool [(2, .class_ 4), (1, u "java/lang/Object"), (0, u "<init>"), (0, u "()V"), (1, .class_ 10), (1, u "java/lang/Number"), (2, .class_ 14), (0, u "java/io/Serializable"), (0, u "serialVersionUID"), (0, u "J")] 20

def k6m0 : Method := { name := "<init>", desc := "()V", sig := { parameters := [], returnType := none }, accessFlags := 1, code := none }
/-- java/lang/Number -/
def k6 : Class := { plain "java/lang/Number" (some 0) with
  accessFlags := 1057
  interfaces := #[5]
  cf := some (fileOf pool6 8 #[] #[{ accessFlags := 1, nameIndex := 5, descriptorIndex := 6, attributes := #[] }] 1057 2 #[13] #[{ accessFlags := 26, nameIndex := 15, descriptorIndex := 16, attributes := #[] }])
  fields := #[{ name := "serialVersionUID", type := .long, accessFlags := 26, slot := 0, constantValue := 0 }]
  methods := #[k6m0]
  instanceTypes := #[]
  staticTypes := #[.long]
  resolved := Array.replicate 37 none
  statics := none }

def pool7 : Array CpInfo := pool [(1, .class_ 2), (0, u "java/lang/constant/Constable"), (0, .class_ 4), (0, u "java/lang/Object")] 6

/-- java/lang/constant/Constable -/
def k7 : Class := { plain "java/lang/constant/Constable" (some 0) with
  accessFlags := 1537
  interfaces := #[]
  cf := some (fileOf pool7 1 #[] #[] 1537 3 #[] #[])
  fields := #[]
  methods := #[]
  instanceTypes := #[]
  staticTypes := #[]
  resolved := Array.replicate 11 none
  statics := none }

def pool8 : Array CpInfo := pool [(1, .class_ 2), (0, u "java/lang/constant/ConstantDesc"), (0, .class_ 4), (0, u "java/lang/Object")] 32

/-- java/lang/constant/ConstantDesc -/
def k8 : Class := { plain "java/lang/constant/ConstantDesc" (some 0) with
  accessFlags := 1537
  interfaces := #[]
  cf := some (fileOf pool8 1 #[] #[] 1537 3 #[] #[])
  fields := #[]
  methods := #[]
  instanceTypes := #[]
  staticTypes := #[]
  resolved := Array.replicate 37 none
  statics := none }

def pool9 : Array CpInfo := pool [(1, .class_ 2), (0, u "java/lang/Double"), (10, u "isFinite"), (0, u "(D)Z"), (8, .class_ 25), (1, u "java/lang/Math"), (12, .methodref 23 39), (0, .nameAndType 40 41), (0, u "abs"), (0, u "(D)D"), (69, .double 9218868437227405311), (2, .class_ 116), (1, u "java/lang/Number"), (3, u "value"), (0, u "D"), (51, u "TYPE"), (0, u "Ljava/lang/Class;"), (0, .class_ 176), (0, u "java/lang/Comparable"), (0, .class_ 178), (0, u "java/lang/constant/Constable"), (0, .class_ 180), (0, u "java/lang/constant/ConstantDesc"), (0, u "POSITIVE_INFINITY"), (3, u "NEGATIVE_INFINITY"), (2, u "NaN"), (2, u "MAX_VALUE"), (0, u "MIN_NORMAL"), (0, u "MIN_VALUE"), (2, u "SIZE"), (0, u "I"), (1, u "PRECISION"), (1, u "MAX_EXPONENT"), (1, u "MIN_EXPONENT"), (1, u "BYTES"), (3, u "serialVersionUID"), (0, u "J")] 79

def k9c0 : Code := { maxStack := 4, maxLocals := 2, code := jdk_117_method_8_code, exceptionTable := #[], attributes := #[] }
def k9m0 : Method := { name := "isFinite", desc := "(D)Z", sig := { parameters := [.double], returnType := some .boolean }, accessFlags := 9, code := some k9c0 }
/-- java/lang/Double -/
def k9 : Class := { plain "java/lang/Double" (some 6) with
  accessFlags := 49
  interfaces := #[3, 7, 8]
  cf := some (fileOf pool9 1 #[] #[{ accessFlags := 9, nameIndex := 13, descriptorIndex := 14, attributes := #[] }] 49 114 #[175, 177, 179] #[{ accessFlags := 25, nameIndex := 181, descriptorIndex := 121, attributes := #[] }, { accessFlags := 25, nameIndex := 185, descriptorIndex := 121, attributes := #[] }, { accessFlags := 25, nameIndex := 188, descriptorIndex := 121, attributes := #[] }, { accessFlags := 25, nameIndex := 191, descriptorIndex := 121, attributes := #[] }, { accessFlags := 25, nameIndex := 192, descriptorIndex := 121, attributes := #[] }, { accessFlags := 25, nameIndex := 193, descriptorIndex := 121, attributes := #[] }, { accessFlags := 25, nameIndex := 196, descriptorIndex := 197, attributes := #[] }, { accessFlags := 25, nameIndex := 199, descriptorIndex := 197, attributes := #[] }, { accessFlags := 25, nameIndex := 201, descriptorIndex := 197, attributes := #[] }, { accessFlags := 25, nameIndex := 203, descriptorIndex := 197, attributes := #[] }, { accessFlags := 25, nameIndex := 205, descriptorIndex := 197, attributes := #[] }, { accessFlags := 25, nameIndex := 173, descriptorIndex := 174, attributes := #[] }, { accessFlags := 18, nameIndex := 120, descriptorIndex := 121, attributes := #[] }, { accessFlags := 26, nameIndex := 209, descriptorIndex := 210, attributes := #[] }])
  fields := #[{ name := "POSITIVE_INFINITY", type := .double, accessFlags := 25, slot := 0, constantValue := 0 }, { name := "NEGATIVE_INFINITY", type := .double, accessFlags := 25, slot := 1, constantValue := 0 }, { name := "NaN", type := .double, accessFlags := 25, slot := 2, constantValue := 0 }, { name := "MAX_VALUE", type := .double, accessFlags := 25, slot := 3, constantValue := 0 }, { name := "MIN_NORMAL", type := .double, accessFlags := 25, slot := 4, constantValue := 0 }, { name := "MIN_VALUE", type := .double, accessFlags := 25, slot := 5, constantValue := 0 }, { name := "SIZE", type := .int, accessFlags := 25, slot := 6, constantValue := 0 }, { name := "PRECISION", type := .int, accessFlags := 25, slot := 7, constantValue := 0 }, { name := "MAX_EXPONENT", type := .int, accessFlags := 25, slot := 8, constantValue := 0 }, { name := "MIN_EXPONENT", type := .int, accessFlags := 25, slot := 9, constantValue := 0 }, { name := "BYTES", type := .int, accessFlags := 25, slot := 10, constantValue := 0 }, { name := "TYPE", type := (.object "java/lang/Class"), accessFlags := 25, slot := 11, constantValue := 0 }, { name := "value", type := .double, accessFlags := 18, slot := 0, constantValue := 0 }, { name := "serialVersionUID", type := .long, accessFlags := 26, slot := 12, constantValue := 0 }]
  methods := #[k9m0]
  instanceTypes := #[.double]
  staticTypes := #[.double, .double, .double, .double, .double, .double, .int, .int, .int, .int, .int, (.object "java/lang/Class"), .long]
  resolved := Array.replicate 290 none
  statics := none }

def pool10 : Array CpInfo := pool [(1, .class_ 2), (0, u "java/lang/Math"), (1, .class_ 6), (1, u "java/lang/Object"), (0, u "<init>"), (0, u "()V"), (5, u "(D)D"), (83, .class_ 100), (1, u "java/lang/Math$RandomNumberGeneratorHolder"), (23, u "abs"), (47, u "negativeZeroFloatBits"), (0, u "J"), (2, u "negativeZeroDoubleBits"), (68, u "$assertionsDisabled"), (0, u "Z"), (91, u "twoToTheDoubleScaleDown"), (0, u "D"), (4, u "twoToTheDoubleScaleUp"), (9, u "E"), (3, u "PI"), (2, u "TAU"), (2, u "DEGREES_TO_RADIANS"), (0, u "RADIANS_TO_DEGREES"), (69, u "signum")] 24

def k10m0 : Method := { name := "<init>", desc := "()V", sig := { parameters := [], returnType := none }, accessFlags := 2, code := none }
def k10c1 : Code := { maxStack := 4, maxLocals := 2, code := jdk_29_method_64_code, exceptionTable := #[], attributes := #[] }
def k10m1 : Method := { name := "abs", desc := "(D)D", sig := { parameters := [.double], returnType := some .double }, accessFlags := 9, code := some k10c1 }
def k10c2 : Code := { maxStack := 4, maxLocals := 2, code := jdk_29_method_81_code, exceptionTable := #[], attributes := #[] }
def k10m2 : Method := { name := "signum", desc := "(D)D", sig := { parameters := [.double], returnType := some .double }, accessFlags := 9, code := some k10c2 }
/-- java/lang/Math -/
def k10 : Class := { plain "java/lang/Math" (some 0) with
  accessFlags := 49
  interfaces := #[]
  cf := some (fileOf pool10 1 #[.nestMembers #[98]] #[{ accessFlags := 2, nameIndex := 7, descriptorIndex := 8, attributes := #[] }, { accessFlags := 9, nameIndex := 124, descriptorIndex := 14, attributes := #[] }, { accessFlags := 9, nameIndex := 435, descriptorIndex := 14, attributes := #[] }] 49 4 #[] #[{ accessFlags := 25, nameIndex := 354, descriptorIndex := 339, attributes := #[] }, { accessFlags := 25, nameIndex := 358, descriptorIndex := 339, attributes := #[] }, { accessFlags := 25, nameIndex := 361, descriptorIndex := 339, attributes := #[] }, { accessFlags := 26, nameIndex := 364, descriptorIndex := 339, attributes := #[] }, { accessFlags := 26, nameIndex := 365, descriptorIndex := 339, attributes := #[] }, { accessFlags := 26, nameIndex := 172, descriptorIndex := 173, attributes := #[] }, { accessFlags := 26, nameIndex := 176, descriptorIndex := 173, attributes := #[] }, { accessFlags := 8, nameIndex := 344, descriptorIndex := 339, attributes := #[] }, { accessFlags := 8, nameIndex := 338, descriptorIndex := 339, attributes := #[] }, { accessFlags := 4120, nameIndex := 245, descriptorIndex := 246, attributes := #[] }])
  fields := #[{ name := "E", type := .double, accessFlags := 25, slot := 0, constantValue := 0 }, { name := "PI", type := .double, accessFlags := 25, slot := 1, constantValue := 0 }, { name := "TAU", type := .double, accessFlags := 25, slot := 2, constantValue := 0 }, { name := "DEGREES_TO_RADIANS", type := .double, accessFlags := 26, slot := 3, constantValue := 0 }, { name := "RADIANS_TO_DEGREES", type := .double, accessFlags := 26, slot := 4, constantValue := 0 }, { name := "negativeZeroFloatBits", type := .long, accessFlags := 26, slot := 5, constantValue := 0 }, { name := "negativeZeroDoubleBits", type := .long, accessFlags := 26, slot := 6, constantValue := 0 }, { name := "twoToTheDoubleScaleUp", type := .double, accessFlags := 8, slot := 7, constantValue := 0 }, { name := "twoToTheDoubleScaleDown", type := .double, accessFlags := 8, slot := 8, constantValue := 0 }, { name := "$assertionsDisabled", type := .boolean, accessFlags := 4120, slot := 9, constantValue := 0 }]
  methods := #[k10m0, k10m1, k10m2]
  instanceTypes := #[]
  staticTypes := #[.double, .double, .double, .double, .double, .long, .long, .double, .double, .boolean]
  resolved := Array.replicate 460 none
  statics := none }

def pool11 : Array CpInfo := pool [(1, u "java/lang/Cloneable"), (0, .class_ 1), (0, u "java/lang/Object"), (0, .class_ 3)] 3

/-- java/lang/Cloneable -/
def k11 : Class := { plain "java/lang/Cloneable" (some 0) with
  accessFlags := 1537
  interfaces := #[]
  cf := some (fileOf pool11 2 #[] #[] 1537 4 #[] #[])
  fields := #[]
  methods := #[]
  instanceTypes := #[]
  staticTypes := #[]
  resolved := Array.replicate 8 none
  statics := none }

/-- the primitive byte -/
def k12 : Class := { plain "byte" none with kind := .primitive 'B', accessFlags := 0x411 }
/-- [B -/
def k13 : Class := { plain "[B" (some 0) with kind := .array 12 .byte, interfaces := #[11, 5], accessFlags := 1041 }

/-- the primitive double -/
def k14 : Class := { plain "double" none with kind := .primitive 'D', accessFlags := 0x411 }
/-- [D -/
def k15 : Class := { plain "[D" (some 0) with kind := .array 14 .double, interfaces := #[11, 5], accessFlags := 1041 }

/-- the primitive int -/
def k16 : Class := { plain "int" none with kind := .primitive 'I', accessFlags := 0x411 }
/-- [I -/
def k17 : Class := { plain "[I" (some 0) with kind := .array 16 .int, interfaces := #[11, 5], accessFlags := 1041 }

/-- [Lcom/example/rainyday/rainyday/ExactSum; -/
def k18 : Class := { plain "[Lcom/example/rainyday/rainyday/ExactSum;" (some 0) with kind := .array 4 (.object "com/example/rainyday/rainyday/ExactSum"), interfaces := #[11, 5], accessFlags := 1041 }

def heap : Heap := #[]
def classes : Array Class := #[k0, k1, k2, k3, k4, k5, k6, k7, k8, k9, k10, k11, k12, k13, k14, k15, k16, k17, k18]
def interned : List (Array UInt16 × Addr) := []
def slotsUsed : Nat := 0
def theMethod : MethodId := ⟨1, 1⟩
def args0 : Array Value := #[.int 5, .int 7, .int 0, .int 3]
def aboutOver (below : List Frame) : State where
  vm := { classes := classes, interned := interned.toArray }
  heap := heap
  slotsUsed := slotsUsed
  threads := #[{ frames := .invoking theMethod args0 :: below }]
def below0 : List Frame := [.native { method := ⟨0, 0⟩, args := #[] }]
def about1 : State := aboutOver below0
def p0 : Program := .bare "" "" ""
def e0 : Env := launch0.env 0 0 0
theorem w_frames : about1.frames = Frame.invoking theMethod args0 :: below0 := rfl
set_option maxRecDepth 65536 in
theorem w_args : argsFit about1.vm theMethod args0 = true := by decide +kernel
set_option maxRecDepth 65536 in
theorem w_heap : heapFits about1 = true := by decide +kernel
set_option maxRecDepth 65536 in
theorem w_runnable : about1.curStatus? = some .runnable := by decide +kernel
set_option maxRecDepth 65536 in
theorem w_alone : about1.alone = true := by decide +kernel
set_option maxRecDepth 65536 in
theorem w_named : about1.methodNamed? x = some theMethod := by decide +kernel
set_option maxRecDepth 65536 in
theorem w_hears : about1.hears theMethod below0 = true := by decide +kernel
set_option maxRecDepth 65536 in
theorem w_ripe : about1.ripe theMethod args0 below0 = true := by decide +kernel
theorem w_running : about1.status = .running := rfl
set_option maxRecDepth 65536 in
theorem w_room : about1.hasRoom e0.platform room_1 = true :=
  launch0.hasRoom_least _ room_1 (by decide +kernel) (by decide +kernel) (by decide +kernel) (by decide +kernel) (by decide +kernel) (by decide +kernel)
theorem allAtoms_all (ts : List Jvm.Cond) (a : Array Jvm.Value) (st : Jvm.State) : (allAtoms ts).before a st = ts.all (fun c => c.before a st) := by
  induction ts with
  | nil => rfl
  | cons c t ih =>
    show (Jvm.Cond.and c (allAtoms t)).before a st = _
    rw [Jvm.Cond.before_and, ih, List.all_cons]
def words1 : List Jvm.Cond := Jvm.Cond.code x code maxLocals ret :: tables_1
/-- a 'code' word, met by the world's own term for the bytes: nothing is compared byte by byte -/
theorem code_word {y : MethodName} {bytes : ByteArray} {mx : Nat} {rt : Option FieldType} {a : Array Value} {s : State} {m : MethodId} {meth : Method} {c : Code} (h1 : s.methodNamed? y = some m) (h2 : s.vm.method? m = some meth) (h3 : meth.code = some c) (h4 : c.code = bytes)
    (h5 : (c.maxLocals == mx && c.exceptionTable.isEmpty && decide (c.maxStack ≤ mostOperands) && decide (meth.sig.returnType = rt) && !meth.locks && decide (parseMethodDescriptor y.desc = some meth.sig)) = true) : (Jvm.Cond.code y bytes mx rt).before a s = true := by
  simp only [Bool.and_eq_true, beq_iff_eq, Bool.not_eq_true', decide_eq_true_eq] at h5
  obtain ⟨⟨⟨⟨⟨g1, g2⟩, g3⟩, g4⟩, g5⟩, g6⟩ := h5
  simp [Cond.before, Cond.holds, Cond.value, h1, h2, h3, h4, g1, g2, g3, g4, g5, g6]
def isCode : Jvm.Cond → Bool
  | .code _ _ _ _ => true
  | _ => false
theorem all_split {L : List Jvm.Cond} {P : Jvm.Cond → Bool} (h1 : L.all (fun c => isCode c || P c) = true) (h2 : ∀ c ∈ L.filter isCode, P c = true) : L.all P = true := by
  refine List.all_eq_true.mpr fun c hc => ?_
  have h := List.all_eq_true.mp h1 c hc
  rcases Bool.eq_false_or_eq_true (isCode c) with hi | hi
  · exact h2 c (List.mem_filter.mpr ⟨hc, hi⟩)
  · simpa [hi] using h
set_option maxRecDepth 65536 in
theorem w_c0 : (Jvm.Cond.code x code maxLocals ret).before args0 about1 = true := code_word (m := ⟨1, 1⟩) (meth := k1m1) (c := k1c1) (by decide +kernel) rfl rfl rfl (by decide +kernel)
set_option maxRecDepth 65536 in
theorem w_c1 : (Jvm.Cond.code ({ cls := "com/example/rainyday/rainyday/ExactSum$TreeSums", name := "<init>", desc := "(I)V" } : Jvm.MethodName) prog_6_method_1_code (2 : Nat) (Option.none : Option Jvm.ClassFile.FieldType)).before args0 about1 = true := code_word (m := ⟨2, 0⟩) (meth := k2m0) (c := k2c0) (by decide +kernel) rfl rfl rfl (by decide +kernel)
set_option maxRecDepth 65536 in
theorem w_c2 : (Jvm.Cond.code ({ cls := "java/lang/Object", name := "<init>", desc := "()V" } : Jvm.MethodName) object_method_1_code (1 : Nat) (Option.none : Option Jvm.ClassFile.FieldType)).before args0 about1 = true := code_word (m := ⟨0, 0⟩) (meth := k0m0) (c := k0c0) (by decide +kernel) rfl rfl rfl (by decide +kernel)
set_option maxRecDepth 65536 in
theorem w_c3 : (Jvm.Cond.code ({ cls := "com/example/rainyday/rainyday/ExactSum$TreeSums", name := "zero", desc := "(I)V" } : Jvm.MethodName) prog_6_method_2_code (2 : Nat) (Option.none : Option Jvm.ClassFile.FieldType)).before args0 about1 = true := code_word (m := ⟨2, 1⟩) (meth := k2m1) (c := k2c1) (by decide +kernel) rfl rfl rfl (by decide +kernel)
set_option maxRecDepth 65536 in
theorem w_c4 : (Jvm.Cond.code ({ cls := "com/example/rainyday/rainyday/ExactSum$TreeSums", name := "extend", desc := "(IID)V" } : Jvm.MethodName) prog_6_method_3_code (21 : Nat) (Option.none : Option Jvm.ClassFile.FieldType)).before args0 about1 = true := code_word (m := ⟨2, 2⟩) (meth := k2m2) (c := k2c2) (by decide +kernel) rfl rfl rfl (by decide +kernel)
set_option maxRecDepth 65536 in
theorem w_c5 : (Jvm.Cond.code ({ cls := "java/lang/Double", name := "isFinite", desc := "(D)Z" } : Jvm.MethodName) jdk_117_method_8_code (2 : Nat) (Option.some Jvm.ClassFile.FieldType.boolean)).before args0 about1 = true := code_word (m := ⟨9, 0⟩) (meth := k9m0) (c := k9c0) (by decide +kernel) rfl rfl rfl (by decide +kernel)
set_option maxRecDepth 65536 in
theorem w_c6 : (Jvm.Cond.code ({ cls := "java/lang/Math", name := "abs", desc := "(D)D" } : Jvm.MethodName) jdk_29_method_64_code (2 : Nat) (Option.some Jvm.ClassFile.FieldType.double)).before args0 about1 = true := code_word (m := ⟨10, 1⟩) (meth := k10m1) (c := k10c1) (by decide +kernel) rfl rfl rfl (by decide +kernel)
set_option maxRecDepth 65536 in
theorem w_c7 : (Jvm.Cond.code ({ cls := "com/example/rainyday/rainyday/ExactSum", name := "roundingError", desc := "(DDD)D" } : Jvm.MethodName) prog_5_method_9_code (10 : Nat) (Option.some Jvm.ClassFile.FieldType.double)).before args0 about1 = true := code_word (m := ⟨4, 1⟩) (meth := k4m1) (c := k4c1) (by decide +kernel) rfl rfl rfl (by decide +kernel)
set_option maxRecDepth 65536 in
theorem w_c8 : (Jvm.Cond.code ({ cls := "com/example/rainyday/rainyday/ExactSum$TreeSums", name := "isExact", desc := "(I)Z" } : Jvm.MethodName) prog_6_method_6_code (2 : Nat) (Option.some Jvm.ClassFile.FieldType.boolean)).before args0 about1 = true := code_word (m := ⟨2, 5⟩) (meth := k2m5) (c := k2c5) (by decide +kernel) rfl rfl rfl (by decide +kernel)
set_option maxRecDepth 65536 in
theorem w_c9 : (Jvm.Cond.code ({ cls := "com/example/rainyday/rainyday/ExactSum$TreeSums", name := "value", desc := "(I)D" } : Jvm.MethodName) prog_6_method_5_code (2 : Nat) (Option.some Jvm.ClassFile.FieldType.double)).before args0 about1 = true := code_word (m := ⟨2, 4⟩) (meth := k2m4) (c := k2c4) (by decide +kernel) rfl rfl rfl (by decide +kernel)
set_option maxRecDepth 65536 in
theorem w_c10 : (Jvm.Cond.code ({ cls := "com/example/rainyday/rainyday/ExactSum", name := "fromParts", desc := "([D)Lcom/example/rainyday/rainyday/ExactSum;" } : Jvm.MethodName) prog_5_method_11_code (8 : Nat) (Option.some (Jvm.ClassFile.FieldType.object "com/example/rainyday/rainyday/ExactSum"))).before args0 about1 = true := code_word (m := ⟨4, 2⟩) (meth := k4m2) (c := k4c2) (by decide +kernel) rfl rfl rfl (by decide +kernel)
set_option maxRecDepth 65536 in
theorem w_c11 : (Jvm.Cond.code ({ cls := "java/lang/Math", name := "signum", desc := "(D)D" } : Jvm.MethodName) jdk_29_method_81_code (2 : Nat) (Option.some Jvm.ClassFile.FieldType.double)).before args0 about1 = true := code_word (m := ⟨10, 2⟩) (meth := k10m2) (c := k10c2) (by decide +kernel) rfl rfl rfl (by decide +kernel)
set_option maxRecDepth 65536 in
theorem w_c12 : (Jvm.Cond.code ({ cls := "com/example/rainyday/rainyday/ExactSum", name := "<init>", desc := "(D[D)V" } : Jvm.MethodName) prog_5_method_1_code (4 : Nat) (Option.none : Option Jvm.ClassFile.FieldType)).before args0 about1 = true := code_word (m := ⟨4, 0⟩) (meth := k4m0) (c := k4c0) (by decide +kernel) rfl rfl rfl (by decide +kernel)
set_option maxRecDepth 65536 in
theorem w_c13 : (Jvm.Cond.code ({ cls := "com/example/rainyday/rainyday/ExactSum$TreeSums", name := "store", desc := "(ILcom/example/rainyday/rainyday/ExactSum;)V" } : Jvm.MethodName) prog_6_method_4_code (3 : Nat) (Option.none : Option Jvm.ClassFile.FieldType)).before args0 about1 = true := code_word (m := ⟨2, 3⟩) (meth := k2m3) (c := k2c3) (by decide +kernel) rfl rfl rfl (by decide +kernel)
def codes1 : List Jvm.Cond := [Jvm.Cond.code x code maxLocals ret, Jvm.Cond.code ({ cls := "com/example/rainyday/rainyday/ExactSum$TreeSums", name := "<init>", desc := "(I)V" } : Jvm.MethodName) prog_6_method_1_code (2 : Nat) (Option.none : Option Jvm.ClassFile.FieldType), Jvm.Cond.code ({ cls := "java/lang/Object", name := "<init>", desc := "()V" } : Jvm.MethodName) object_method_1_code (1 : Nat) (Option.none : Option Jvm.ClassFile.FieldType), Jvm.Cond.code ({ cls := "com/example/rainyday/rainyday/ExactSum$TreeSums", name := "zero", desc := "(I)V" } : Jvm.MethodName) prog_6_method_2_code (2 : Nat) (Option.none : Option Jvm.ClassFile.FieldType), Jvm.Cond.code ({ cls := "com/example/rainyday/rainyday/ExactSum$TreeSums", name := "extend", desc := "(IID)V" } : Jvm.MethodName) prog_6_method_3_code (21 : Nat) (Option.none : Option Jvm.ClassFile.FieldType), Jvm.Cond.code ({ cls := "java/lang/Double", name := "isFinite", desc := "(D)Z" } : Jvm.MethodName) jdk_117_method_8_code (2 : Nat) (Option.some Jvm.ClassFile.FieldType.boolean), Jvm.Cond.code ({ cls := "java/lang/Math", name := "abs", desc := "(D)D" } : Jvm.MethodName) jdk_29_method_64_code (2 : Nat) (Option.some Jvm.ClassFile.FieldType.double), Jvm.Cond.code ({ cls := "com/example/rainyday/rainyday/ExactSum", name := "roundingError", desc := "(DDD)D" } : Jvm.MethodName) prog_5_method_9_code (10 : Nat) (Option.some Jvm.ClassFile.FieldType.double), Jvm.Cond.code ({ cls := "com/example/rainyday/rainyday/ExactSum$TreeSums", name := "isExact", desc := "(I)Z" } : Jvm.MethodName) prog_6_method_6_code (2 : Nat) (Option.some Jvm.ClassFile.FieldType.boolean), Jvm.Cond.code ({ cls := "com/example/rainyday/rainyday/ExactSum$TreeSums", name := "value", desc := "(I)D" } : Jvm.MethodName) prog_6_method_5_code (2 : Nat) (Option.some Jvm.ClassFile.FieldType.double), Jvm.Cond.code ({ cls := "com/example/rainyday/rainyday/ExactSum", name := "fromParts", desc := "([D)Lcom/example/rainyday/rainyday/ExactSum;" } : Jvm.MethodName) prog_5_method_11_code (8 : Nat) (Option.some (Jvm.ClassFile.FieldType.object "com/example/rainyday/rainyday/ExactSum")), Jvm.Cond.code ({ cls := "java/lang/Math", name := "signum", desc := "(D)D" } : Jvm.MethodName) jdk_29_method_81_code (2 : Nat) (Option.some Jvm.ClassFile.FieldType.double), Jvm.Cond.code ({ cls := "com/example/rainyday/rainyday/ExactSum", name := "<init>", desc := "(D[D)V" } : Jvm.MethodName) prog_5_method_1_code (4 : Nat) (Option.none : Option Jvm.ClassFile.FieldType), Jvm.Cond.code ({ cls := "com/example/rainyday/rainyday/ExactSum$TreeSums", name := "store", desc := "(ILcom/example/rainyday/rainyday/ExactSum;)V" } : Jvm.MethodName) prog_6_method_4_code (3 : Nat) (Option.none : Option Jvm.ClassFile.FieldType)]
set_option maxRecDepth 65536 in
theorem codes_eq : words1.filter isCode = codes1 := rfl
theorem w_codes : ∀ c ∈ words1.filter isCode, c.before args0 about1 = true := by
  rw [codes_eq]
  intro c hc
  simp only [codes1, List.mem_cons, List.not_mem_nil, or_false] at hc
  rcases hc with rfl | rfl | rfl | rfl | rfl | rfl | rfl | rfl | rfl | rfl | rfl | rfl | rfl | rfl
  · exact w_c0
  · exact w_c1
  · exact w_c2
  · exact w_c3
  · exact w_c4
  · exact w_c5
  · exact w_c6
  · exact w_c7
  · exact w_c8
  · exact w_c9
  · exact w_c10
  · exact w_c11
  · exact w_c12
  · exact w_c13
set_option maxRecDepth 65536 in
theorem w_t1 : (words1.take 24).all (fun c => isCode c || c.before args0 about1) = true := by decide +kernel
set_option maxRecDepth 65536 in
theorem w_t2 : ((words1.drop 24).take 24).all (fun c => isCode c || c.before args0 about1) = true := by decide +kernel
set_option maxRecDepth 65536 in
theorem w_t3 : (((words1.drop 24).drop 24).take 24).all (fun c => isCode c || c.before args0 about1) = true := by decide +kernel
set_option maxRecDepth 65536 in
theorem w_t4 : (((words1.drop 24).drop 24).drop 24).all (fun c => isCode c || c.before args0 about1) = true := by decide +kernel
theorem w_tables : (allAtoms (Jvm.Cond.code x code maxLocals ret :: tables_1)).before args0 about1 = true := by
  rw [allAtoms_all]
  show words1.all (fun c => c.before args0 about1) = true
  refine all_split ?_ w_codes
  rw [← List.take_append_drop 24 words1, List.all_append, w_t1, ← List.take_append_drop 24 (words1.drop 24), List.all_append, w_t2, ← List.take_append_drop 24 ((words1.drop 24).drop 24), List.all_append, w_t3, w_t4]
  rfl
set_option maxRecDepth 65536 in
theorem w_case : (Jvm.Cond.and given_1 narrow_1).before args0 about1 = true := by decide +kernel
theorem w_applies : (headSpec (Jvm.Cond.code x code maxLocals ret :: tables_1) room_1).applies x e0.platform about1 = true :=
  (Spec.applies_iff w_frames).mpr ⟨w_running, w_runnable, w_alone, w_named, w_hears, w_ripe, w_room, w_tables⟩
theorem atStart : AtStart classFile x code maxLocals ret World_1 tables_1 room_1 Calls_1 rest_1 Pre_1 launch0 p0 e0 about1 theMethod args0 below0 :=
  ⟨lists_1, trivial, launch0.admits_env _ _ _, launch0.least_env, fairChoices_fair.cas, fairChoices_fair.clock, w_frames, w_args, w_heap, w_applies, trivial, trivial, w_case⟩
end start1
theorem witness_1 : WitnessClaimed_1 := ⟨start1.p0, start1.e0, start1.about1, start1.theMethod, start1.args0, start1.below0, start1.atStart⟩
end Jvm.Pilot.@@N@@
