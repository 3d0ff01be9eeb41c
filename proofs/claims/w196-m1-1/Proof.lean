import JvmDerived
import JvmDerived.Pilot.@@N@@Statement
import JvmDerived.Pilot.@@N@@Code
set_option linter.unusedVariables false
set_option linter.unusedSimpArgs false
namespace Jvm.Own
open Sem ClassFile Op Lib Jvm.Stand Jvm.Free Jvm.LawKit Jvm.RoadKit Jvm.Free.Fl
/-- where a walk stands -/
def St (p : Program) (l : Launch) (e : Env) (R : Room) (s : State) (m : MethodId) (args : Array Value) (below : List Frame) (meth : Method) (c : Code) (Z : State) (B : ByteArray) (own nm : String) (ml : Nat) (ret : Option FieldType) (n0 : Nat) (T : State) (h : Heap) (k n : Nat) : Prop :=
  (p.tables.exec = Jvm.exec ∧ c.code = B ∧ Z.Warmed39 s.vm ∧ s.vm.findClass own = some m.cls ∧ c.maxLocals = ml ∧ meth.sig.returnType = ret ∧ meth.locks = false ∧ meth.name = nm) ∧ ∃ locs, Stand p l e R s m args below meth c T locs k n ∧ T.heap = h ∧ Fr n0 locs
/-- what is left to show of a walk: it ends, and what it leaves is Q -/
def Go (p : Program) (e : Env) (below : List Frame) (s : State) (n0 : Nat) (Q : Option Value → Heap → Prop) (kC kS : Nat) (t : State) : Prop :=
  ∃ s₂ o, Steps p.tables e below t s₂ ∧ s₂.status = .running ∧ Ended s₂ below o ∧ ∃ v L, o = .returned v ∧ (Q v s₂.heap ∧ Fr n0 L) ∧ FrameEnd s o s₂ L kC kS
/-- a body's contract -/
def Con (l : Launch) (Z : State) (y : MethodName) (ws : List Jvm.Cond) (B : ByteArray) (ml : Nat) (ret : Option FieldType) (rm : Room) (as : Array Value) (h0 : Heap) (n0 : Nat) (Q : Option Value → Heap → Prop) : Prop :=
  MetFree l y (head1 (Cond.code y B ml ret :: ws) rm) (fun a U => a = as ∧ Z.Warmed39 U.vm ∧ U.heap = h0) (fun _ _ _ _ _ => True) (fun _ U o U' => ∃ v L, o = .returned v ∧ (Q v U'.heap ∧ Fr n0 L) ∧ FrameEnd U o U' L rm.cells rm.slots)
theorem wd {ws : List Jvm.Cond} {a0 : Array Value} {Z : State} (hw : ∀ d ∈ ws, d.before a0 Z = true) (i : Nat) {d : Jvm.Cond} (q : ws[i]? = some d) : d.before a0 Z = true := hw d (List.mem_of_getElem? q)
section Kit
variable {p : Program} {l : Launch} {e : Env} {R : Room} {s : State} {m : MethodId} {args : Array Value} {below : List Frame} {meth : Method} {c : Code} {Z : State} {B : ByteArray} {own nm : String} {ml : Nat} {ret : Option FieldType} {n0 : Nat} {T : State} {h : Heap} {k n : Nat} {Q : Option Value → Heap → Prop} {kC kS : Nat}
theorem Go.st {t t' : State} (r : Go p e below s n0 Q kC kS t') (q : ∀ u, Steps p.tables e below t' u → Steps p.tables e below t u) : Go p e below s n0 Q kC kS t := by
  obtain ⟨s₂, o, h1, h2⟩ := r; exact ⟨s₂, o, q _ h1, h2⟩
theorem St.more {k' n' : Nat} (X : St p l e R s m args below meth c Z B own nm ml ret n0 T h k n) (hk : k ≤ k') (hn : n ≤ n') : St p l e R s m args below meth c Z B own nm ml ret n0 T h k' n' := by
  obtain ⟨q, locs, X, r⟩ := X; exact ⟨q, locs, X.more hk hn, r⟩
theorem St.z (X : St p l e R s m args below meth c Z B own nm ml ret n0 T h k n) : Z.Warmed39 s.vm := X.1.2.2.1

theorem iloadN (X : St p l e R s m args below meth c Z B own nm ml ret n0 T h k n) {pc : Nat} {Ls : Array Slot} {st : List Value} {j : Fin 4} {v : Int32} (hd : decode B pc = .ok (.iload_n j, 1)) (hl : Ls[j.val]? = some (.val (.int v)))
    (r : Go p e below s n0 Q kC kS (T.setTop (mkF m (pc + 1) Ls (.int v :: st)))) : Go p e below s n0 Q kC kS (T.setTop (mkF m pc Ls (st))) := by
  obtain ⟨⟨hx, rfl, -⟩, locs, X, -⟩ := X
  exact r.st fun u kk => XS.iloadN X.here hx rfl hd hl kk
theorem iload (X : St p l e R s m args below meth c Z B own nm ml ret n0 T h k n) {pc : Nat} {Ls : Array Slot} {st : List Value} {j : Nat} {v : Int32} (hd : decode B pc = .ok (.iload j, 2)) (hl : Ls[j]? = some (.val (.int v)))
    (r : Go p e below s n0 Q kC kS (T.setTop (mkF m (pc + 2) Ls (.int v :: st)))) : Go p e below s n0 Q kC kS (T.setTop (mkF m pc Ls (st))) := by
  obtain ⟨⟨hx, rfl, -⟩, locs, X, -⟩ := X
  exact r.st fun u kk => XS.iload X.here hx rfl hd hl kk
theorem istoreN (X : St p l e R s m args below meth c Z B own nm ml ret n0 T h k n) {pc : Nat} {Ls : Array Slot} {st : List Value} {j : Fin 4} {v : Int32} {l' : Array Slot} (hd : decode B pc = .ok (.istore_n j, 1)) (hl : storeLocals Ls j.val (.int v) = some l')
    (r : Go p e below s n0 Q kC kS (T.setTop (mkF m (pc + 1) l' (st)))) : Go p e below s n0 Q kC kS (T.setTop (mkF m pc Ls (.int v :: st))) := by
  obtain ⟨⟨hx, rfl, -⟩, locs, X, -⟩ := X
  exact r.st fun u kk => XS.istoreN X.here hx rfl hd rfl hl kk
theorem istore (X : St p l e R s m args below meth c Z B own nm ml ret n0 T h k n) {pc : Nat} {Ls : Array Slot} {st : List Value} {j : Nat} {v : Int32} {l' : Array Slot} (hd : decode B pc = .ok (.istore j, 2)) (hl : storeLocals Ls j (.int v) = some l')
    (r : Go p e below s n0 Q kC kS (T.setTop (mkF m (pc + 2) l' (st)))) : Go p e below s n0 Q kC kS (T.setTop (mkF m pc Ls (.int v :: st))) := by
  obtain ⟨⟨hx, rfl, -⟩, locs, X, -⟩ := X
  exact r.st fun u kk => XS.istore X.here hx rfl hd rfl hl kk
theorem lloadN (X : St p l e R s m args below meth c Z B own nm ml ret n0 T h k n) {pc : Nat} {Ls : Array Slot} {st : List Value} {j : Fin 4} {v : Int64} (hd : decode B pc = .ok (.lload_n j, 1)) (hl : Ls[j.val]? = some (.val (.long v)))
    (r : Go p e below s n0 Q kC kS (T.setTop (mkF m (pc + 1) Ls (.long v :: st)))) : Go p e below s n0 Q kC kS (T.setTop (mkF m pc Ls (st))) := by
  obtain ⟨⟨hx, rfl, -⟩, locs, X, -⟩ := X
  exact r.st fun u kk => XS.lloadN X.here hx rfl hd hl kk
theorem lload (X : St p l e R s m args below meth c Z B own nm ml ret n0 T h k n) {pc : Nat} {Ls : Array Slot} {st : List Value} {j : Nat} {v : Int64} (hd : decode B pc = .ok (.lload j, 2)) (hl : Ls[j]? = some (.val (.long v)))
    (r : Go p e below s n0 Q kC kS (T.setTop (mkF m (pc + 2) Ls (.long v :: st)))) : Go p e below s n0 Q kC kS (T.setTop (mkF m pc Ls (st))) := by
  obtain ⟨⟨hx, rfl, -⟩, locs, X, -⟩ := X
  exact r.st fun u kk => XS.lload X.here hx rfl hd hl kk
theorem lstoreN (X : St p l e R s m args below meth c Z B own nm ml ret n0 T h k n) {pc : Nat} {Ls : Array Slot} {st : List Value} {j : Fin 4} {v : Int64} {l' : Array Slot} (hd : decode B pc = .ok (.lstore_n j, 1)) (hl : storeLocals Ls j.val (.long v) = some l')
    (r : Go p e below s n0 Q kC kS (T.setTop (mkF m (pc + 1) l' (st)))) : Go p e below s n0 Q kC kS (T.setTop (mkF m pc Ls (.long v :: st))) := by
  obtain ⟨⟨hx, rfl, -⟩, locs, X, -⟩ := X
  exact r.st fun u kk => XS.lstoreN X.here hx rfl hd rfl hl kk
theorem lstore (X : St p l e R s m args below meth c Z B own nm ml ret n0 T h k n) {pc : Nat} {Ls : Array Slot} {st : List Value} {j : Nat} {v : Int64} {l' : Array Slot} (hd : decode B pc = .ok (.lstore j, 2)) (hl : storeLocals Ls j (.long v) = some l')
    (r : Go p e below s n0 Q kC kS (T.setTop (mkF m (pc + 2) l' (st)))) : Go p e below s n0 Q kC kS (T.setTop (mkF m pc Ls (.long v :: st))) := by
  obtain ⟨⟨hx, rfl, -⟩, locs, X, -⟩ := X
  exact r.st fun u kk => XS.lstore X.here hx rfl hd rfl hl kk
theorem dloadN (X : St p l e R s m args below meth c Z B own nm ml ret n0 T h k n) {pc : Nat} {Ls : Array Slot} {st : List Value} {j : Fin 4} {v : UInt64} (hd : decode B pc = .ok (.dload_n j, 1)) (hl : Ls[j.val]? = some (.val (.double v)))
    (r : Go p e below s n0 Q kC kS (T.setTop (mkF m (pc + 1) Ls (.double v :: st)))) : Go p e below s n0 Q kC kS (T.setTop (mkF m pc Ls (st))) := by
  obtain ⟨⟨hx, rfl, -⟩, locs, X, -⟩ := X
  exact r.st fun u kk => XS.dloadN X.here hx rfl hd hl kk
theorem dload (X : St p l e R s m args below meth c Z B own nm ml ret n0 T h k n) {pc : Nat} {Ls : Array Slot} {st : List Value} {j : Nat} {v : UInt64} (hd : decode B pc = .ok (.dload j, 2)) (hl : Ls[j]? = some (.val (.double v)))
    (r : Go p e below s n0 Q kC kS (T.setTop (mkF m (pc + 2) Ls (.double v :: st)))) : Go p e below s n0 Q kC kS (T.setTop (mkF m pc Ls (st))) := by
  obtain ⟨⟨hx, rfl, -⟩, locs, X, -⟩ := X
  exact r.st fun u kk => XS.dload X.here hx rfl hd hl kk
theorem dstoreN (X : St p l e R s m args below meth c Z B own nm ml ret n0 T h k n) {pc : Nat} {Ls : Array Slot} {st : List Value} {j : Fin 4} {v : UInt64} {l' : Array Slot} (hd : decode B pc = .ok (.dstore_n j, 1)) (hl : storeLocals Ls j.val (.double v) = some l')
    (r : Go p e below s n0 Q kC kS (T.setTop (mkF m (pc + 1) l' (st)))) : Go p e below s n0 Q kC kS (T.setTop (mkF m pc Ls (.double v :: st))) := by
  obtain ⟨⟨hx, rfl, -⟩, locs, X, -⟩ := X
  exact r.st fun u kk => XS.dstoreN X.here hx rfl hd rfl hl kk
theorem dstore (X : St p l e R s m args below meth c Z B own nm ml ret n0 T h k n) {pc : Nat} {Ls : Array Slot} {st : List Value} {j : Nat} {v : UInt64} {l' : Array Slot} (hd : decode B pc = .ok (.dstore j, 2)) (hl : storeLocals Ls j (.double v) = some l')
    (r : Go p e below s n0 Q kC kS (T.setTop (mkF m (pc + 2) l' (st)))) : Go p e below s n0 Q kC kS (T.setTop (mkF m pc Ls (.double v :: st))) := by
  obtain ⟨⟨hx, rfl, -⟩, locs, X, -⟩ := X
  exact r.st fun u kk => XS.dstore X.here hx rfl hd rfl hl kk
theorem aloadN (X : St p l e R s m args below meth c Z B own nm ml ret n0 T h k n) {pc : Nat} {Ls : Array Slot} {st : List Value} {j : Fin 4} {v : Value} (hd : decode B pc = .ok (.aload_n j, 1)) (hl : Ls[j.val]? = some (.val v)) (hv : v.isRef = true)
    (r : Go p e below s n0 Q kC kS (T.setTop (mkF m (pc + 1) Ls (v :: st)))) : Go p e below s n0 Q kC kS (T.setTop (mkF m pc Ls (st))) := by
  obtain ⟨⟨hx, rfl, -⟩, locs, X, -⟩ := X
  exact r.st fun u kk => XS.aloadN X.here hx rfl hd hl hv kk
theorem aload (X : St p l e R s m args below meth c Z B own nm ml ret n0 T h k n) {pc : Nat} {Ls : Array Slot} {st : List Value} {j : Nat} {v : Value} (hd : decode B pc = .ok (.aload j, 2)) (hl : Ls[j]? = some (.val v)) (hv : v.isRef = true)
    (r : Go p e below s n0 Q kC kS (T.setTop (mkF m (pc + 2) Ls (v :: st)))) : Go p e below s n0 Q kC kS (T.setTop (mkF m pc Ls (st))) := by
  obtain ⟨⟨hx, rfl, -⟩, locs, X, -⟩ := X
  exact r.st fun u kk => XS.aload X.here hx rfl hd hl hv kk
theorem astoreN (X : St p l e R s m args below meth c Z B own nm ml ret n0 T h k n) {pc : Nat} {Ls : Array Slot} {st : List Value} {j : Fin 4} {v : Value} {l' : Array Slot} (hd : decode B pc = .ok (.astore_n j, 1)) (hv : v.isRef = true) (hl : storeLocals Ls j.val v = some l')
    (r : Go p e below s n0 Q kC kS (T.setTop (mkF m (pc + 1) l' (st)))) : Go p e below s n0 Q kC kS (T.setTop (mkF m pc Ls (v :: st))) := by
  obtain ⟨⟨hx, rfl, -⟩, locs, X, -⟩ := X
  exact r.st fun u kk => XS.astoreN X.here hx rfl hd rfl hv hl kk
theorem astore (X : St p l e R s m args below meth c Z B own nm ml ret n0 T h k n) {pc : Nat} {Ls : Array Slot} {st : List Value} {j : Nat} {v : Value} {l' : Array Slot} (hd : decode B pc = .ok (.astore j, 2)) (hv : v.isRef = true) (hl : storeLocals Ls j v = some l')
    (r : Go p e below s n0 Q kC kS (T.setTop (mkF m (pc + 2) l' (st)))) : Go p e below s n0 Q kC kS (T.setTop (mkF m pc Ls (v :: st))) := by
  obtain ⟨⟨hx, rfl, -⟩, locs, X, -⟩ := X
  exact r.st fun u kk => XS.astore X.here hx rfl hd rfl hv hl kk
theorem iconst (X : St p l e R s m args below meth c Z B own nm ml ret n0 T h k n) {pc : Nat} {Ls : Array Slot} {st : List Value} {i : Int} (v : Int32) (hd : decode B pc = .ok (.iconst i, 1)) (hv : Int32.ofInt i = v)
    (r : Go p e below s n0 Q kC kS (T.setTop (mkF m (pc + 1) Ls (.int v :: st)))) : Go p e below s n0 Q kC kS (T.setTop (mkF m pc Ls (st))) := by
  obtain ⟨⟨hx, rfl, -⟩, locs, X, -⟩ := X
  subst hv
  exact r.st fun u kk => XS.iconst X.here hx rfl hd kk
theorem bipush (X : St p l e R s m args below meth c Z B own nm ml ret n0 T h k n) {pc : Nat} {Ls : Array Slot} {st : List Value} {i : Int} (v : Int32) (hd : decode B pc = .ok (.bipush i, 2)) (hv : (Int8.ofInt i).toInt32 = v)
    (r : Go p e below s n0 Q kC kS (T.setTop (mkF m (pc + 2) Ls (.int v :: st)))) : Go p e below s n0 Q kC kS (T.setTop (mkF m pc Ls (st))) := by
  obtain ⟨⟨hx, rfl, -⟩, locs, X, -⟩ := X
  subst hv
  exact r.st fun u kk => XS.bipush X.here hx rfl hd kk
theorem sipush (X : St p l e R s m args below meth c Z B own nm ml ret n0 T h k n) {pc : Nat} {Ls : Array Slot} {st : List Value} {i : Int} (v : Int32) (hd : decode B pc = .ok (.sipush i, 3)) (hv : (Int16.ofInt i).toInt32 = v)
    (r : Go p e below s n0 Q kC kS (T.setTop (mkF m (pc + 3) Ls (.int v :: st)))) : Go p e below s n0 Q kC kS (T.setTop (mkF m pc Ls (st))) := by
  obtain ⟨⟨hx, rfl, -⟩, locs, X, -⟩ := X
  subst hv
  exact r.st fun u kk => XS.sipush X.here hx rfl hd kk
theorem lconst (X : St p l e R s m args below meth c Z B own nm ml ret n0 T h k n) {pc : Nat} {Ls : Array Slot} {st : List Value} {i : Fin 2} (v : Int64) (hd : decode B pc = .ok (.lconst i, 1)) (hv : Int64.ofNat i = v)
    (r : Go p e below s n0 Q kC kS (T.setTop (mkF m (pc + 1) Ls (.long v :: st)))) : Go p e below s n0 Q kC kS (T.setTop (mkF m pc Ls (st))) := by
  obtain ⟨⟨hx, rfl, -⟩, locs, X, -⟩ := X
  subst hv
  exact r.st fun u kk => XS.lconst X.here hx rfl hd kk
theorem dconst0 (X : St p l e R s m args below meth c Z B own nm ml ret n0 T h k n) {pc : Nat} {Ls : Array Slot} {st : List Value}  (hd : decode B pc = .ok (.dconst 0, 1)) 
    (r : Go p e below s n0 Q kC kS (T.setTop (mkF m (pc + 1) Ls (.double 0 :: st)))) : Go p e below s n0 Q kC kS (T.setTop (mkF m pc Ls (st))) := by
  obtain ⟨⟨hx, rfl, -⟩, locs, X, -⟩ := X
  exact r.st fun u kk => XS.dconst0 X.here hx rfl hd rfl kk
theorem dconst1 (X : St p l e R s m args below meth c Z B own nm ml ret n0 T h k n) {pc : Nat} {Ls : Array Slot} {st : List Value}  (hd : decode B pc = .ok (.dconst 1, 1)) 
    (r : Go p e below s n0 Q kC kS (T.setTop (mkF m (pc + 1) Ls (.double 4607182418800017408 :: st)))) : Go p e below s n0 Q kC kS (T.setTop (mkF m pc Ls (st))) := by
  obtain ⟨⟨hx, rfl, -⟩, locs, X, -⟩ := X
  exact r.st fun u kk => XS.dconst1 X.here hx rfl hd rfl kk
theorem aconstNull (X : St p l e R s m args below meth c Z B own nm ml ret n0 T h k n) {pc : Nat} {Ls : Array Slot} {st : List Value}  (hd : decode B pc = .ok (.aconst_null, 1)) 
    (r : Go p e below s n0 Q kC kS (T.setTop (mkF m (pc + 1) Ls (.null :: st)))) : Go p e below s n0 Q kC kS (T.setTop (mkF m pc Ls (st))) := by
  obtain ⟨⟨hx, rfl, -⟩, locs, X, -⟩ := X
  exact r.st fun u kk => XS.aconstNull X.here hx rfl hd kk
theorem iadd (X : St p l e R s m args below meth c Z B own nm ml ret n0 T h k n) {pc : Nat} {Ls : Array Slot} {st : List Value} {x y : Int32} (hd : decode B pc = .ok (.iadd, 1)) 
    (r : Go p e below s n0 Q kC kS (T.setTop (mkF m (pc + 1) Ls (.int (x + y) :: st)))) : Go p e below s n0 Q kC kS (T.setTop (mkF m pc Ls (.int y :: .int x :: st))) := by
  obtain ⟨⟨hx, rfl, -⟩, locs, X, -⟩ := X
  exact r.st fun u kk => XS.iadd X.here hx rfl hd rfl kk
theorem isub (X : St p l e R s m args below meth c Z B own nm ml ret n0 T h k n) {pc : Nat} {Ls : Array Slot} {st : List Value} {x y : Int32} (hd : decode B pc = .ok (.isub, 1)) 
    (r : Go p e below s n0 Q kC kS (T.setTop (mkF m (pc + 1) Ls (.int (x - y) :: st)))) : Go p e below s n0 Q kC kS (T.setTop (mkF m pc Ls (.int y :: .int x :: st))) := by
  obtain ⟨⟨hx, rfl, -⟩, locs, X, -⟩ := X
  exact r.st fun u kk => XS.isub X.here hx rfl hd rfl kk
theorem imul (X : St p l e R s m args below meth c Z B own nm ml ret n0 T h k n) {pc : Nat} {Ls : Array Slot} {st : List Value} {x y : Int32} (hd : decode B pc = .ok (.imul, 1)) 
    (r : Go p e below s n0 Q kC kS (T.setTop (mkF m (pc + 1) Ls (.int (x * y) :: st)))) : Go p e below s n0 Q kC kS (T.setTop (mkF m pc Ls (.int y :: .int x :: st))) := by
  obtain ⟨⟨hx, rfl, -⟩, locs, X, -⟩ := X
  exact r.st fun u kk => XS.imul X.here hx rfl hd rfl kk
theorem iand (X : St p l e R s m args below meth c Z B own nm ml ret n0 T h k n) {pc : Nat} {Ls : Array Slot} {st : List Value} {x y : Int32} (hd : decode B pc = .ok (.iand, 1)) 
    (r : Go p e below s n0 Q kC kS (T.setTop (mkF m (pc + 1) Ls (.int (x &&& y) :: st)))) : Go p e below s n0 Q kC kS (T.setTop (mkF m pc Ls (.int y :: .int x :: st))) := by
  obtain ⟨⟨hx, rfl, -⟩, locs, X, -⟩ := X
  exact r.st fun u kk => XS.iand X.here hx rfl hd rfl kk
theorem ior (X : St p l e R s m args below meth c Z B own nm ml ret n0 T h k n) {pc : Nat} {Ls : Array Slot} {st : List Value} {x y : Int32} (hd : decode B pc = .ok (.ior, 1)) 
    (r : Go p e below s n0 Q kC kS (T.setTop (mkF m (pc + 1) Ls (.int (x ||| y) :: st)))) : Go p e below s n0 Q kC kS (T.setTop (mkF m pc Ls (.int y :: .int x :: st))) := by
  obtain ⟨⟨hx, rfl, -⟩, locs, X, -⟩ := X
  exact r.st fun u kk => Jvm.Free.XT.ior X.here hx rfl hd rfl kk
theorem ixor (X : St p l e R s m args below meth c Z B own nm ml ret n0 T h k n) {pc : Nat} {Ls : Array Slot} {st : List Value} {x y : Int32} (hd : decode B pc = .ok (.ixor, 1)) 
    (r : Go p e below s n0 Q kC kS (T.setTop (mkF m (pc + 1) Ls (.int (x ^^^ y) :: st)))) : Go p e below s n0 Q kC kS (T.setTop (mkF m pc Ls (.int y :: .int x :: st))) := by
  obtain ⟨⟨hx, rfl, -⟩, locs, X, -⟩ := X
  exact r.st fun u kk => Jvm.Free.XT.ixor X.here hx rfl hd rfl kk
theorem ishl (X : St p l e R s m args below meth c Z B own nm ml ret n0 T h k n) {pc : Nat} {Ls : Array Slot} {st : List Value} {x y : Int32} (hd : decode B pc = .ok (.ishl, 1)) 
    (r : Go p e below s n0 Q kC kS (T.setTop (mkF m (pc + 1) Ls (.int (x <<< (y &&& 31)) :: st)))) : Go p e below s n0 Q kC kS (T.setTop (mkF m pc Ls (.int y :: .int x :: st))) := by
  obtain ⟨⟨hx, rfl, -⟩, locs, X, -⟩ := X
  exact r.st fun u kk => Jvm.Free.XT.ishl X.here hx rfl hd rfl kk
theorem ishr (X : St p l e R s m args below meth c Z B own nm ml ret n0 T h k n) {pc : Nat} {Ls : Array Slot} {st : List Value} {x y : Int32} (hd : decode B pc = .ok (.ishr, 1)) 
    (r : Go p e below s n0 Q kC kS (T.setTop (mkF m (pc + 1) Ls (.int (x >>> (y &&& 31)) :: st)))) : Go p e below s n0 Q kC kS (T.setTop (mkF m pc Ls (.int y :: .int x :: st))) := by
  obtain ⟨⟨hx, rfl, -⟩, locs, X, -⟩ := X
  exact r.st fun u kk => Jvm.Free.XT.ishr X.here hx rfl hd rfl kk
theorem iushr (X : St p l e R s m args below meth c Z B own nm ml ret n0 T h k n) {pc : Nat} {Ls : Array Slot} {st : List Value} {x y : Int32} (hd : decode B pc = .ok (.iushr, 1)) 
    (r : Go p e below s n0 Q kC kS (T.setTop (mkF m (pc + 1) Ls (.int (Jvm.Free.XT.ushr x y) :: st)))) : Go p e below s n0 Q kC kS (T.setTop (mkF m pc Ls (.int y :: .int x :: st))) := by
  obtain ⟨⟨hx, rfl, -⟩, locs, X, -⟩ := X
  exact r.st fun u kk => Jvm.Free.XT.iushr X.here hx rfl hd rfl kk
theorem irem (X : St p l e R s m args below meth c Z B own nm ml ret n0 T h k n) {pc : Nat} {Ls : Array Slot} {st : List Value} {x y : Int32} (hd : decode B pc = .ok (.irem, 1)) (hy : y ≠ 0)
    (r : Go p e below s n0 Q kC kS (T.setTop (mkF m (pc + 1) Ls (.int (x % y) :: st)))) : Go p e below s n0 Q kC kS (T.setTop (mkF m pc Ls (.int y :: .int x :: st))) := by
  obtain ⟨⟨hx, rfl, -⟩, locs, X, -⟩ := X
  exact r.st fun u kk => iremM X hx rfl hd rfl hy kk
theorem ladd (X : St p l e R s m args below meth c Z B own nm ml ret n0 T h k n) {pc : Nat} {Ls : Array Slot} {st : List Value} {x y : Int64} (hd : decode B pc = .ok (.ladd, 1)) 
    (r : Go p e below s n0 Q kC kS (T.setTop (mkF m (pc + 1) Ls (.long (x + y) :: st)))) : Go p e below s n0 Q kC kS (T.setTop (mkF m pc Ls (.long y :: .long x :: st))) := by
  obtain ⟨⟨hx, rfl, -⟩, locs, X, -⟩ := X
  exact r.st fun u kk => Jvm.Free.XT.ladd X.here hx rfl hd rfl kk
theorem lsub (X : St p l e R s m args below meth c Z B own nm ml ret n0 T h k n) {pc : Nat} {Ls : Array Slot} {st : List Value} {x y : Int64} (hd : decode B pc = .ok (.lsub, 1)) 
    (r : Go p e below s n0 Q kC kS (T.setTop (mkF m (pc + 1) Ls (.long (x - y) :: st)))) : Go p e below s n0 Q kC kS (T.setTop (mkF m pc Ls (.long y :: .long x :: st))) := by
  obtain ⟨⟨hx, rfl, -⟩, locs, X, -⟩ := X
  exact r.st fun u kk => Jvm.Free.XT.lsub X.here hx rfl hd rfl kk
theorem lmul (X : St p l e R s m args below meth c Z B own nm ml ret n0 T h k n) {pc : Nat} {Ls : Array Slot} {st : List Value} {x y : Int64} (hd : decode B pc = .ok (.lmul, 1)) 
    (r : Go p e below s n0 Q kC kS (T.setTop (mkF m (pc + 1) Ls (.long (x * y) :: st)))) : Go p e below s n0 Q kC kS (T.setTop (mkF m pc Ls (.long y :: .long x :: st))) := by
  obtain ⟨⟨hx, rfl, -⟩, locs, X, -⟩ := X
  exact r.st fun u kk => Jvm.Free.XT.lmul X.here hx rfl hd rfl kk
theorem land (X : St p l e R s m args below meth c Z B own nm ml ret n0 T h k n) {pc : Nat} {Ls : Array Slot} {st : List Value} {x y : Int64} (hd : decode B pc = .ok (.land, 1)) 
    (r : Go p e below s n0 Q kC kS (T.setTop (mkF m (pc + 1) Ls (.long (x &&& y) :: st)))) : Go p e below s n0 Q kC kS (T.setTop (mkF m pc Ls (.long y :: .long x :: st))) := by
  obtain ⟨⟨hx, rfl, -⟩, locs, X, -⟩ := X
  exact r.st fun u kk => Jvm.Free.XT.land X.here hx rfl hd rfl kk
theorem lrem (X : St p l e R s m args below meth c Z B own nm ml ret n0 T h k n) {pc : Nat} {Ls : Array Slot} {st : List Value} {x y : Int64} (hd : decode B pc = .ok (.lrem, 1)) (hy : y ≠ 0)
    (r : Go p e below s n0 Q kC kS (T.setTop (mkF m (pc + 1) Ls (.long (x - (x / y) * y) :: st)))) : Go p e below s n0 Q kC kS (T.setTop (mkF m pc Ls (.long y :: .long x :: st))) := by
  obtain ⟨⟨hx, rfl, -⟩, locs, X, -⟩ := X
  exact r.st fun u kk => Jvm.Free.XT.lrem X.here hx rfl hd rfl hy kk
theorem lneg (X : St p l e R s m args below meth c Z B own nm ml ret n0 T h k n) {pc : Nat} {Ls : Array Slot} {st : List Value} {x : Int64} (hd : decode B pc = .ok (.lneg, 1)) 
    (r : Go p e below s n0 Q kC kS (T.setTop (mkF m (pc + 1) Ls (.long (-x) :: st)))) : Go p e below s n0 Q kC kS (T.setTop (mkF m pc Ls (.long x :: st))) := by
  obtain ⟨⟨hx, rfl, -⟩, locs, X, -⟩ := X
  exact r.st fun u kk => Jvm.Free.XT.lneg X.here hx rfl hd rfl kk
theorem i2l (X : St p l e R s m args below meth c Z B own nm ml ret n0 T h k n) {pc : Nat} {Ls : Array Slot} {st : List Value} {x : Int32} (hd : decode B pc = .ok (.i2l, 1)) 
    (r : Go p e below s n0 Q kC kS (T.setTop (mkF m (pc + 1) Ls (.long (x.toInt64) :: st)))) : Go p e below s n0 Q kC kS (T.setTop (mkF m pc Ls (.int x :: st))) := by
  obtain ⟨⟨hx, rfl, -⟩, locs, X, -⟩ := X
  exact r.st fun u kk => Jvm.Free.XT.i2l X.here hx rfl hd rfl kk
theorem l2i (X : St p l e R s m args below meth c Z B own nm ml ret n0 T h k n) {pc : Nat} {Ls : Array Slot} {st : List Value} {x : Int64} (hd : decode B pc = .ok (.l2i, 1)) 
    (r : Go p e below s n0 Q kC kS (T.setTop (mkF m (pc + 1) Ls (.int (x.toInt32) :: st)))) : Go p e below s n0 Q kC kS (T.setTop (mkF m pc Ls (.long x :: st))) := by
  obtain ⟨⟨hx, rfl, -⟩, locs, X, -⟩ := X
  exact r.st fun u kk => Jvm.Free.XT.l2i X.here hx rfl hd rfl kk
theorem i2s (X : St p l e R s m args below meth c Z B own nm ml ret n0 T h k n) {pc : Nat} {Ls : Array Slot} {st : List Value} {x : Int32} (hd : decode B pc = .ok (.i2s, 1)) 
    (r : Go p e below s n0 Q kC kS (T.setTop (mkF m (pc + 1) Ls (.int (x.toInt16.toInt32) :: st)))) : Go p e below s n0 Q kC kS (T.setTop (mkF m pc Ls (.int x :: st))) := by
  obtain ⟨⟨hx, rfl, -⟩, locs, X, -⟩ := X
  exact r.st fun u kk => Jvm.Free.XT.i2s X.here hx rfl hd rfl kk
theorem i2c (X : St p l e R s m args below meth c Z B own nm ml ret n0 T h k n) {pc : Nat} {Ls : Array Slot} {st : List Value} {x : Int32} (hd : decode B pc = .ok (.i2c, 1)) 
    (r : Go p e below s n0 Q kC kS (T.setTop (mkF m (pc + 1) Ls (.int (x.toUInt32.toUInt16.toUInt32.toInt32) :: st)))) : Go p e below s n0 Q kC kS (T.setTop (mkF m pc Ls (.int x :: st))) := by
  obtain ⟨⟨hx, rfl, -⟩, locs, X, -⟩ := X
  exact r.st fun u kk => Jvm.Free.XT.i2c X.here hx rfl hd rfl kk
theorem lshr (X : St p l e R s m args below meth c Z B own nm ml ret n0 T h k n) {pc : Nat} {Ls : Array Slot} {st : List Value} {x : Int64} {y : Int32} (hd : decode B pc = .ok (.lshr, 1)) 
    (r : Go p e below s n0 Q kC kS (T.setTop (mkF m (pc + 1) Ls (.long (x >>> (y.toInt64 &&& 63)) :: st)))) : Go p e below s n0 Q kC kS (T.setTop (mkF m pc Ls (.int y :: .long x :: st))) := by
  obtain ⟨⟨hx, rfl, -⟩, locs, X, -⟩ := X
  exact r.st fun u kk => Jvm.Free.XT.lshr X.here hx rfl hd rfl kk
theorem lshl (X : St p l e R s m args below meth c Z B own nm ml ret n0 T h k n) {pc : Nat} {Ls : Array Slot} {st : List Value} {x : Int64} {y : Int32} (hd : decode B pc = .ok (.lshl, 1)) 
    (r : Go p e below s n0 Q kC kS (T.setTop (mkF m (pc + 1) Ls (.long (x <<< (y.toInt64 &&& 63)) :: st)))) : Go p e below s n0 Q kC kS (T.setTop (mkF m pc Ls (.int y :: .long x :: st))) := by
  obtain ⟨⟨hx, rfl, -⟩, locs, X, -⟩ := X
  exact r.st fun u kk => Jvm.Free.XT.lshl X.here hx rfl hd rfl kk
theorem i2d (X : St p l e R s m args below meth c Z B own nm ml ret n0 T h k n) {pc : Nat} {Ls : Array Slot} {st : List Value} {x : Int32} {v : UInt64} (hd : decode B pc = .ok (.i2d, 1)) (hv : FP.i2d x = v)
    (r : Go p e below s n0 Q kC kS (T.setTop (mkF m (pc + 1) Ls (.double v :: st)))) : Go p e below s n0 Q kC kS (T.setTop (mkF m pc Ls (.int x :: st))) := by
  obtain ⟨⟨hx, rfl, -⟩, locs, X, -⟩ := X
  exact r.st fun u kk => XS.i2dS X.here hx rfl hd rfl hv kk
theorem l2d (X : St p l e R s m args below meth c Z B own nm ml ret n0 T h k n) {pc : Nat} {Ls : Array Slot} {st : List Value} {x : Int64} {v : UInt64} (hd : decode B pc = .ok (.l2d, 1)) (hv : FP.l2d x = v)
    (r : Go p e below s n0 Q kC kS (T.setTop (mkF m (pc + 1) Ls (.double v :: st)))) : Go p e below s n0 Q kC kS (T.setTop (mkF m pc Ls (.long x :: st))) := by
  obtain ⟨⟨hx, rfl, -⟩, locs, X, -⟩ := X
  exact r.st fun u kk => XS.l2dS X.here hx rfl hd rfl hv kk
theorem dneg (X : St p l e R s m args below meth c Z B own nm ml ret n0 T h k n) {pc : Nat} {Ls : Array Slot} {st : List Value} {x v : UInt64} (hd : decode B pc = .ok (.dneg, 1)) (hv : FP.dneg x = v)
    (r : Go p e below s n0 Q kC kS (T.setTop (mkF m (pc + 1) Ls (.double v :: st)))) : Go p e below s n0 Q kC kS (T.setTop (mkF m pc Ls (.double x :: st))) := by
  obtain ⟨⟨hx, rfl, -⟩, locs, X, -⟩ := X
  exact r.st fun u kk => XS.dnegS X.here hx rfl hd rfl hv kk
theorem dadd (X : St p l e R s m args below meth c Z B own nm ml ret n0 T h k n) {pc : Nat} {Ls : Array Slot} {st : List Value} {x y v : UInt64} (hd : decode B pc = .ok (.dadd, 1)) (hv : FP.dadd x y = v) (hn : NoNaN64 v)
    (r : Go p e below s n0 Q kC kS (T.setTop (mkF m (pc + 1) Ls (.double v :: st)))) : Go p e below s n0 Q kC kS (T.setTop (mkF m pc Ls (.double y :: .double x :: st))) := by
  obtain ⟨⟨hx, rfl, -⟩, locs, X, -⟩ := X
  exact r.st fun u kk => XS.daddS X.here hx rfl hd rfl (hv.symm ▸ hn) hv kk
theorem dsub (X : St p l e R s m args below meth c Z B own nm ml ret n0 T h k n) {pc : Nat} {Ls : Array Slot} {st : List Value} {x y v : UInt64} (hd : decode B pc = .ok (.dsub, 1)) (hv : FP.dsub x y = v) (hn : NoNaN64 v)
    (r : Go p e below s n0 Q kC kS (T.setTop (mkF m (pc + 1) Ls (.double v :: st)))) : Go p e below s n0 Q kC kS (T.setTop (mkF m pc Ls (.double y :: .double x :: st))) := by
  obtain ⟨⟨hx, rfl, -⟩, locs, X, -⟩ := X
  exact r.st fun u kk => XS.dsubS X.here hx rfl hd rfl (hv.symm ▸ hn) hv kk
theorem dmul (X : St p l e R s m args below meth c Z B own nm ml ret n0 T h k n) {pc : Nat} {Ls : Array Slot} {st : List Value} {x y v : UInt64} (hd : decode B pc = .ok (.dmul, 1)) (hv : FP.dmul x y = v) (hn : NoNaN64 v)
    (r : Go p e below s n0 Q kC kS (T.setTop (mkF m (pc + 1) Ls (.double v :: st)))) : Go p e below s n0 Q kC kS (T.setTop (mkF m pc Ls (.double y :: .double x :: st))) := by
  obtain ⟨⟨hx, rfl, -⟩, locs, X, -⟩ := X
  exact r.st fun u kk => XS.dmulS X.here hx rfl hd rfl (hv.symm ▸ hn) hv kk
theorem ddiv (X : St p l e R s m args below meth c Z B own nm ml ret n0 T h k n) {pc : Nat} {Ls : Array Slot} {st : List Value} {x y v : UInt64} (hd : decode B pc = .ok (.ddiv, 1)) (hv : FP.ddiv x y = v) (hn : NoNaN64 v)
    (r : Go p e below s n0 Q kC kS (T.setTop (mkF m (pc + 1) Ls (.double v :: st)))) : Go p e below s n0 Q kC kS (T.setTop (mkF m pc Ls (.double y :: .double x :: st))) := by
  obtain ⟨⟨hx, rfl, -⟩, locs, X, -⟩ := X
  exact r.st fun u kk => XS.ddivS X.here hx rfl hd rfl (hv.symm ▸ hn) hv kk
theorem dup (X : St p l e R s m args below meth c Z B own nm ml ret n0 T h k n) {pc : Nat} {Ls : Array Slot} {st : List Value} {x : Value} (hd : decode B pc = .ok (.dup, 1)) (hc : x.category = 1)
    (r : Go p e below s n0 Q kC kS (T.setTop (mkF m (pc + 1) Ls (x :: x :: st)))) : Go p e below s n0 Q kC kS (T.setTop (mkF m pc Ls (x :: st))) := by
  obtain ⟨⟨hx, rfl, -⟩, locs, X, -⟩ := X
  exact r.st fun u kk => XS.dup X.here hx rfl hd rfl hc kk
theorem pop (X : St p l e R s m args below meth c Z B own nm ml ret n0 T h k n) {pc : Nat} {Ls : Array Slot} {st : List Value} {x : Value} (hd : decode B pc = .ok (.pop, 1)) (hc : x.category = 1)
    (r : Go p e below s n0 Q kC kS (T.setTop (mkF m (pc + 1) Ls (st)))) : Go p e below s n0 Q kC kS (T.setTop (mkF m pc Ls (x :: st))) := by
  obtain ⟨⟨hx, rfl, -⟩, locs, X, -⟩ := X
  exact r.st fun u kk => Jvm.Free.XT.pop X.here hx rfl hd rfl hc kk
theorem iinc (X : St p l e R s m args below meth c Z B own nm ml ret n0 T h k n) {pc : Nat} {Ls : Array Slot} {st : List Value} {j : Nat} {cst : Int} {x : Int32} {l' : Array Slot} (hd : decode B pc = .ok (.iinc j cst, 3)) (hl : Ls[j]? = some (.val (.int x))) (hl' : storeLocals Ls j (.int (x + Int32.ofInt cst)) = some l')
    (r : Go p e below s n0 Q kC kS (T.setTop (mkF m (pc + 3) l' (st)))) : Go p e below s n0 Q kC kS (T.setTop (mkF m pc Ls (st))) := by
  obtain ⟨⟨hx, rfl, -⟩, locs, X, -⟩ := X
  exact r.st fun u kk => XS.iinc X.here hx rfl hd hl hl' kk
theorem goto_ (X : St p l e R s m args below meth c Z B own nm ml ret n0 T h k n) {pc pc' : Nat} {Ls : Array Slot} {st : List Value} {o : Int} (hd : decode B pc = .ok (.goto o, 3)) (hp : (decide (0 ≤ (pc : Int) + o) && decide (((pc : Int) + o).toNat = pc')) = true)
    (r : Go p e below s n0 Q kC kS (T.setTop (mkF m pc' Ls st))) : Go p e below s n0 Q kC kS (T.setTop (mkF m pc Ls st)) := by
  obtain ⟨⟨hx, rfl, -⟩, locs, X, -⟩ := X
  simp only [Bool.and_eq_true, decide_eq_true_eq] at hp
  exact r.st fun u kk => XS.goto X.here hx rfl rfl hd hp.1 hp.2 kk
/-- what a comparison asks, of whole numbers -/
def cmpI : ClassFile.Cond → Int → Int → Prop
  | .eq, a, b => a = b
  | .ne, a, b => ¬ (a = b)
  | .lt, a, b => a < b
  | .ge, a, b => b ≤ a
  | .gt, a, b => b < a
  | .le, a, b => a ≤ b
theorem holds_I (cd : ClassFile.Cond) (x y : Int32) : if_icmp.holds cd x y = true ↔ cmpI cd x.toInt y.toInt := by
  cases cd <;> simp [if_icmp.holds, cmpI, Int32.lt_iff_toInt_lt, Int32.le_iff_toInt_le, ← Int32.toInt_inj]
theorem holds_0 (cd : ClassFile.Cond) (x : Int32) : ifCond.holds cd x = true ↔ cmpI cd x.toInt 0 := by
  rw [if0]; exact holds_I cd x 0
theorem iff_ (X : St p l e R s m args below meth c Z B own nm ml ret n0 T h k n) {pc pc' : Nat} {Ls : Array Slot} {st : List Value} {cd : ClassFile.Cond} {o : Int} {x : Int32} (hd : decode B pc = .ok (.ifCond cd o, 3)) (hp : (decide (0 ≤ (pc : Int) + o) && decide (((pc : Int) + o).toNat = pc')) = true)
    (r1 : cmpI cd x.toInt 0 → Go p e below s n0 Q kC kS (T.setTop (mkF m pc' Ls st))) (r2 : ¬ cmpI cd x.toInt 0 → Go p e below s n0 Q kC kS (T.setTop (mkF m (pc + 3) Ls st))) : Go p e below s n0 Q kC kS (T.setTop (mkF m pc Ls (.int x :: st))) := by
  obtain ⟨⟨hx, rfl, -⟩, locs, X, -⟩ := X
  simp only [Bool.and_eq_true, decide_eq_true_eq] at hp
  by_cases q : ifCond.holds cd x = true
  · exact (r1 ((holds_0 cd x).mp q)).st fun u kk => XS.ifYes X.here hx rfl rfl hd rfl q hp.1 hp.2 kk
  · exact (r2 fun z => q ((holds_0 cd x).mpr z)).st fun u kk => XS.ifNo X.here hx rfl hd rfl (by simpa using q) kk
theorem icmp_ (X : St p l e R s m args below meth c Z B own nm ml ret n0 T h k n) {pc pc' : Nat} {Ls : Array Slot} {st : List Value} {cd : ClassFile.Cond} {o : Int} {x y : Int32} (hd : decode B pc = .ok (.if_icmp cd o, 3)) (hp : (decide (0 ≤ (pc : Int) + o) && decide (((pc : Int) + o).toNat = pc')) = true)
    (r1 : cmpI cd x.toInt y.toInt → Go p e below s n0 Q kC kS (T.setTop (mkF m pc' Ls st))) (r2 : ¬ cmpI cd x.toInt y.toInt → Go p e below s n0 Q kC kS (T.setTop (mkF m (pc + 3) Ls st))) : Go p e below s n0 Q kC kS (T.setTop (mkF m pc Ls (.int y :: .int x :: st))) := by
  obtain ⟨⟨hx, rfl, -⟩, locs, X, -⟩ := X
  simp only [Bool.and_eq_true, decide_eq_true_eq] at hp
  by_cases q : if_icmp.holds cd x y = true
  · exact (r1 ((holds_I cd x y).mp q)).st fun u kk => XS.icmpYes X.here hx rfl rfl hd rfl q hp.1 hp.2 kk
  · exact (r2 fun z => q ((holds_I cd x y).mpr z)).st fun u kk => XS.icmpNo X.here hx rfl hd rfl (by simpa using q) kk
/-- a boolean of the walk: 1 where P, else 0 -/
abbrev bo (P : Prop) [Decidable P] : Int32 := if P then 1 else 0
theorem bo_I (P : Prop) [Decidable P] : (bo P).toInt = if P then 1 else 0 := by unfold bo; split <;> rfl
theorem bo_t {P : Prop} [Decidable P] (q : P) : (1 : Int32) = bo P := (if_pos q).symm
theorem bo_f {P : Prop} [Decidable P] (q : ¬ P) : (0 : Int32) = bo P := (if_neg q).symm
theorem bo_c {P P' : Prop} [Decidable P] [Decidable P'] (q : P ↔ P') : bo P = bo P' := by unfold bo; by_cases z : P <;> simp [z, q.mp, q.mpr, ← q]
theorem iff_and {A P : Prop} (h : A) : P ↔ A ∧ P := ⟨fun q => ⟨h, q⟩, fun q => q.2⟩
theorem iff_or {A P : Prop} (h : ¬ A) : P ↔ A ∨ P := ⟨Or.inr, fun q => q.resolve_left h⟩
theorem iff_l {A P P' : Prop} (h : A) : P ↔ (A ∧ P) ∨ (¬ A ∧ P') := ⟨fun q => Or.inl ⟨h, q⟩, fun q => q.elim (fun z => z.2) (fun z => absurd h z.1)⟩
theorem iff_r {A P P' : Prop} (h : ¬ A) : P ↔ (A ∧ P') ∨ (¬ A ∧ P) := ⟨fun q => Or.inr ⟨h, q⟩, fun q => q.elim (fun z => absurd z.1 h) (fun z => z.2)⟩
theorem nar_bo (P : Prop) [Decidable P] : narrow .boolean (.int (bo P)) = .int (bo P) := by unfold bo; split <;> rfl
theorem fits_bo (P : Prop) [Decidable P] : fits .boolean (.int (bo P)) = true := by unfold bo; split <;> rfl
theorem nar_z {z : Int32} (q : z &&& 1 = z) : narrow .boolean (.int z) = .int z := by show Value.int (z &&& 1) = _; rw [q]
theorem fits_z {z : Int32} (q : z &&& 1 = z) : fits .boolean (.int z) = true := by rcases and_one z with w | w <;> rw [q] at w <;> subst w <;> rfl
theorem bo0 (P : Prop) [Decidable P] : (bo P).toInt = 0 ↔ ¬ P := by rw [bo_I]; by_cases q : P <;> simp [q]
theorem ifeqB (X : St p l e R s m args below meth c Z B own nm ml ret n0 T h k n) {pc pc' : Nat} {Ls : Array Slot} {st : List Value} {o : Int} {P : Prop} [Decidable P] (hd : decode B pc = .ok (.ifCond .eq o, 3)) (hp : (decide (0 ≤ (pc : Int) + o) && decide (((pc : Int) + o).toNat = pc')) = true)
    (r1 : ¬ P → Go p e below s n0 Q kC kS (T.setTop (mkF m pc' Ls st))) (r2 : P → Go p e below s n0 Q kC kS (T.setTop (mkF m (pc + 3) Ls st))) : Go p e below s n0 Q kC kS (T.setTop (mkF m pc Ls (.int (bo P) :: st))) := by
  refine iff_ X hd hp (fun q => r1 fun z => ?_) (fun q => r2 (Classical.byContradiction fun z => q ?_))
  · rw [cmpI, bo_I, if_pos z] at q; cases q
  · rw [cmpI, bo_I, if_neg z]
theorem ifneB (X : St p l e R s m args below meth c Z B own nm ml ret n0 T h k n) {pc pc' : Nat} {Ls : Array Slot} {st : List Value} {o : Int} {P : Prop} [Decidable P] (hd : decode B pc = .ok (.ifCond .ne o, 3)) (hp : (decide (0 ≤ (pc : Int) + o) && decide (((pc : Int) + o).toNat = pc')) = true)
    (r1 : P → Go p e below s n0 Q kC kS (T.setTop (mkF m pc' Ls st))) (r2 : ¬ P → Go p e below s n0 Q kC kS (T.setTop (mkF m (pc + 3) Ls st))) : Go p e below s n0 Q kC kS (T.setTop (mkF m pc Ls (.int (bo P) :: st))) := by
  refine iff_ X hd hp (fun q => r1 (Classical.byContradiction fun z => q ?_)) (fun q => r2 fun z => q ?_)
  · rw [bo_I, if_neg z]
  · rw [cmpI, bo_I, if_pos z]; decide
theorem bo_eq (P P' : Prop) [Decidable P] [Decidable P'] : (bo P).toInt = (bo P').toInt ↔ (P ↔ P') := by
  rw [bo_I, bo_I]; by_cases a : P <;> by_cases b : P' <;> simp [a, b]
theorem icmpneB (X : St p l e R s m args below meth c Z B own nm ml ret n0 T h k n) {pc pc' : Nat} {Ls : Array Slot} {st : List Value} {o : Int} {P P' : Prop} [Decidable P] [Decidable P'] (hd : decode B pc = .ok (.if_icmp .ne o, 3)) (hp : (decide (0 ≤ (pc : Int) + o) && decide (((pc : Int) + o).toNat = pc')) = true)
    (r1 : ¬ (P ↔ P') → Go p e below s n0 Q kC kS (T.setTop (mkF m pc' Ls st))) (r2 : (P ↔ P') → Go p e below s n0 Q kC kS (T.setTop (mkF m (pc + 3) Ls st))) : Go p e below s n0 Q kC kS (T.setTop (mkF m pc Ls (.int (bo P') :: .int (bo P) :: st))) := by
  refine icmp_ X hd hp (fun q => r1 fun z => q ((bo_eq P P').mpr z)) (fun q => r2 (Classical.byContradiction fun z => q fun w => z ((bo_eq P P').mp w)))
theorem icmpeqB (X : St p l e R s m args below meth c Z B own nm ml ret n0 T h k n) {pc pc' : Nat} {Ls : Array Slot} {st : List Value} {o : Int} {P P' : Prop} [Decidable P] [Decidable P'] (hd : decode B pc = .ok (.if_icmp .eq o, 3)) (hp : (decide (0 ≤ (pc : Int) + o) && decide (((pc : Int) + o).toNat = pc')) = true)
    (r1 : (P ↔ P') → Go p e below s n0 Q kC kS (T.setTop (mkF m pc' Ls st))) (r2 : ¬ (P ↔ P') → Go p e below s n0 Q kC kS (T.setTop (mkF m (pc + 3) Ls st))) : Go p e below s n0 Q kC kS (T.setTop (mkF m pc Ls (.int (bo P') :: .int (bo P) :: st))) := by
  refine icmp_ X hd hp (fun q => r1 ((bo_eq P P').mp q)) (fun q => r2 fun z => q ((bo_eq P P').mpr z))
theorem ifnullY (X : St p l e R s m args below meth c Z B own nm ml ret n0 T h k n) {pc pc' : Nat} {Ls : Array Slot} {st : List Value} {o : Int} (hd : decode B pc = .ok (.ifnull o, 3)) (hp : (decide (0 ≤ (pc : Int) + o) && decide (((pc : Int) + o).toNat = pc')) = true)
    (r : Go p e below s n0 Q kC kS (T.setTop (mkF m pc' Ls st))) : Go p e below s n0 Q kC kS (T.setTop (mkF m pc Ls (.null :: st))) := by
  obtain ⟨⟨hx, rfl, -⟩, locs, X, -⟩ := X
  simp only [Bool.and_eq_true, decide_eq_true_eq] at hp
  exact r.st fun u kk => XS.ifnullYes X.here hx rfl rfl hd rfl hp.1 hp.2 kk
theorem ifnonnullY (X : St p l e R s m args below meth c Z B own nm ml ret n0 T h k n) {pc pc' : Nat} {Ls : Array Slot} {st : List Value} {o : Int} {b : Addr} (hd : decode B pc = .ok (.ifnonnull o, 3)) (hp : (decide (0 ≤ (pc : Int) + o) && decide (((pc : Int) + o).toNat = pc')) = true)
    (r : Go p e below s n0 Q kC kS (T.setTop (mkF m pc' Ls st))) : Go p e below s n0 Q kC kS (T.setTop (mkF m pc Ls (.ref b :: st))) := by
  obtain ⟨⟨hx, rfl, -⟩, locs, X, -⟩ := X
  simp only [Bool.and_eq_true, decide_eq_true_eq] at hp
  exact r.st fun u kk => Jvm.Free.XT.ifnonnullYes X.here hx rfl rfl hd rfl hp.1 hp.2 kk
theorem ifnullN (X : St p l e R s m args below meth c Z B own nm ml ret n0 T h k n) {pc : Nat} {Ls : Array Slot} {st : List Value} {o : Int} {b : Addr} (hd : decode B pc = .ok (.ifnull o, 3)) 
    (r : Go p e below s n0 Q kC kS (T.setTop (mkF m (pc + 3) Ls (st)))) : Go p e below s n0 Q kC kS (T.setTop (mkF m pc Ls (.ref b :: st))) := by
  obtain ⟨⟨hx, rfl, -⟩, locs, X, -⟩ := X
  exact r.st fun u kk => XS.ifnullNo X.here hx rfl hd rfl kk
theorem ifnonnullN (X : St p l e R s m args below meth c Z B own nm ml ret n0 T h k n) {pc : Nat} {Ls : Array Slot} {st : List Value} {o : Int} (hd : decode B pc = .ok (.ifnonnull o, 3)) 
    (r : Go p e below s n0 Q kC kS (T.setTop (mkF m (pc + 3) Ls (st)))) : Go p e below s n0 Q kC kS (T.setTop (mkF m pc Ls (.null :: st))) := by
  obtain ⟨⟨hx, rfl, -⟩, locs, X, -⟩ := X
  exact r.st fun u kk => Jvm.Free.XT.ifnonnullNo X.here hx rfl hd rfl kk
/-- a double's number, in units of 2^-1074 -/
def dz (x : UInt64) : Int := FP.Core.zval FP.Core.b64 (FP.Core.val64 x)
theorem nn_val {x : UInt64} (q : NoNaN64 x) : FP.Core.val64 x ≠ .nan := (FP.Core.notNaN_iff x).mp (noNaN64_no.mp q)
theorem dcmp_dz {x y : UInt64} (nx : NoNaN64 x) (ny : NoNaN64 y) : FP.dcmp x y = some (compare (dz x) (dz y)) := FP.Core.dcmp_zval (nn_val nx) (nn_val ny)
theorem cmpV_dz {x y : UInt64} (nx : NoNaN64 x) (ny : NoNaN64 y) (cd : ClassFile.Cond) (o : CmpOp) : cmpI cd (cmpValue (FP.dcmp x y) o).toInt 0 ↔ cmpI cd (dz x) (dz y) := by
  rw [dcmp_dz nx ny]
  have key : (cmpValue (some (compare (dz x) (dz y))) o).toInt = if dz x < dz y then -1 else if dz x = dz y then 0 else 1 := by
    rw [FP.Core.compare_ite]; split
    · cases o <;> rfl
    · split
      · cases o <;> rfl
      · cases o <;> rfl
  rw [key]
  split
  · cases cd <;> simp [cmpI] <;> omega
  · split
    · cases cd <;> simp [cmpI] <;> omega
    · cases cd <;> simp [cmpI] <;> omega
/-- dcmpl | dcmpg and the branch behind it, of two that are no NaN -/
theorem dcmpF (X : St p l e R s m args below meth c Z B own nm ml ret n0 T h k n) {pc pc' : Nat} {Ls : Array Slot} {st : List Value} {cd : ClassFile.Cond} {op : CmpOp} {o : Int} {x y : UInt64} (hd1 : decode B pc = .ok (.dcmp op, 1)) (hd : decode B (pc + 1) = .ok (.ifCond cd o, 3)) (hp : (decide (0 ≤ ((pc + 1 : Nat) : Int) + o) && decide ((((pc + 1 : Nat) : Int) + o).toNat = pc')) = true) (nx : NoNaN64 x) (ny : NoNaN64 y)
    (r1 : cmpI cd (dz x) (dz y) → Go p e below s n0 Q kC kS (T.setTop (mkF m pc' Ls st))) (r2 : ¬ cmpI cd (dz x) (dz y) → Go p e below s n0 Q kC kS (T.setTop (mkF m (pc + 1 + 3) Ls st))) : Go p e below s n0 Q kC kS (T.setTop (mkF m pc Ls (.double y :: .double x :: st))) := by
  have r : Go p e below s n0 Q kC kS (T.setTop (mkF m (pc + 1) Ls (.int (cmpValue (FP.dcmp x y) op) :: st))) :=
    iff_ X hd hp (fun q => r1 ((cmpV_dz nx ny cd op).mp q)) (fun q => r2 fun z => q ((cmpV_dz nx ny cd op).mpr z))
  obtain ⟨⟨hx, rfl, -⟩, locs, X, -⟩ := X
  exact r.st fun u kk => XS.dcmpS X.here hx rfl hd1 rfl rfl kk
theorem cmpL_I (x y : Int64) (cd : ClassFile.Cond) : cmpI cd (Jvm.Free.XT.cmpL x y).toInt 0 ↔ cmpI cd x.toInt y.toInt := by
  have key : (Jvm.Free.XT.cmpL x y).toInt = if y.toInt < x.toInt then 1 else if x.toInt = y.toInt then 0 else -1 := by
    simp only [Jvm.Free.XT.cmpL, Int64.lt_iff_toInt_lt, ← Int64.toInt_inj]
    split
    · rfl
    · split <;> rfl
  rw [key]
  split
  · cases cd <;> simp [cmpI] <;> omega
  · split
    · cases cd <;> simp [cmpI] <;> omega
    · cases cd <;> simp [cmpI] <;> omega
theorem lcmpF (X : St p l e R s m args below meth c Z B own nm ml ret n0 T h k n) {pc pc' : Nat} {Ls : Array Slot} {st : List Value} {cd : ClassFile.Cond} {o : Int} {x y : Int64} (hd1 : decode B pc = .ok (.lcmp, 1)) (hd : decode B (pc + 1) = .ok (.ifCond cd o, 3)) (hp : (decide (0 ≤ ((pc + 1 : Nat) : Int) + o) && decide ((((pc + 1 : Nat) : Int) + o).toNat = pc')) = true)
    (r1 : cmpI cd x.toInt y.toInt → Go p e below s n0 Q kC kS (T.setTop (mkF m pc' Ls st))) (r2 : ¬ cmpI cd x.toInt y.toInt → Go p e below s n0 Q kC kS (T.setTop (mkF m (pc + 1 + 3) Ls st))) : Go p e below s n0 Q kC kS (T.setTop (mkF m pc Ls (.long y :: .long x :: st))) := by
  have r : Go p e below s n0 Q kC kS (T.setTop (mkF m (pc + 1) Ls (.int (Jvm.Free.XT.cmpL x y) :: st))) :=
    iff_ X hd hp (fun q => r1 ((cmpL_I x y cd).mp q)) (fun q => r2 fun z => q ((cmpL_I x y cd).mpr z))
  obtain ⟨⟨hx, rfl, -⟩, locs, X, -⟩ := X
  exact r.st fun u kk => Jvm.Free.XT.lcmp X.here hx rfl hd1 rfl kk
theorem ldcI (X : St p l e R s m args below meth c Z B own nm ml ret n0 T h k n) {a0 : Array Value} {pc index : Nat} {Ls : Array Slot} {st : List Value} {v : Int32} (hd : decode B pc = .ok (.ldc index, 2)) (w : (Cond.constant own index v).before a0 Z = true)
    (r : Go p e below s n0 Q kC kS (T.setTop (mkF m (pc + 2) Ls (.int v :: st)))) : Go p e below s n0 Q kC kS (T.setTop (mkF m pc Ls st)) := by
  obtain ⟨⟨hx, rfl, hZ, hown, -⟩, locs, X, -⟩ := X
  exact r.st fun u kk => X.ldcInt (g := mkF m pc Ls st) hx hown (mvT hZ w) rfl hd u kk
theorem ldc2J (X : St p l e R s m args below meth c Z B own nm ml ret n0 T h k n) {a0 : Array Value} {pc index : Nat} {Ls : Array Slot} {st : List Value} {v : Int64} (hd : decode B pc = .ok (.ldc2_w index, 3)) (w : (Cond.constantLong own index v).before a0 Z = true)
    (r : Go p e below s n0 Q kC kS (T.setTop (mkF m (pc + 3) Ls (.long v :: st)))) : Go p e below s n0 Q kC kS (T.setTop (mkF m pc Ls st)) := by
  obtain ⟨⟨hx, rfl, hZ, hown, -⟩, locs, X, -⟩ := X
  exact r.st fun u kk => X.ldc2Long (g := mkF m pc Ls st) hx hown (mvT hZ w) rfl hd u kk
theorem ldc2D (X : St p l e R s m args below meth c Z B own nm ml ret n0 T h k n) {a0 : Array Value} {pc index : Nat} {Ls : Array Slot} {st : List Value} {v : UInt64} (hd : decode B pc = .ok (.ldc2_w index, 3)) (w : (Cond.constantDouble own index v).before a0 Z = true)
    (r : Go p e below s n0 Q kC kS (T.setTop (mkF m (pc + 3) Ls (.double v :: st)))) : Go p e below s n0 Q kC kS (T.setTop (mkF m pc Ls st)) := by
  obtain ⟨⟨hx, rfl, hZ, hown, -⟩, locs, X, -⟩ := X
  exact r.st fun u kk => X.ldc2DoubleC (g := mkF m pc Ls st) hx hown (mvT hZ w) rfl hd u kk
theorem leaveG (X : St p l e R s m args below meth c Z B own nm ml ret n0 T h k n) {v : Option Value} {t : State} (hv : meth.sig.returnType = none → v = none) (hQ : Q v h) (hk : k ≤ kC) (hn : n ≤ kS)
    (st : ∀ (locs : List Loc) (fs : List Frame), p.tables.exec = Jvm.exec → c.code = B → meth.sig.returnType = ret → Stand p l e R s m args below meth c T locs k n → (∀ (f : JFrame) (acts : List Action), f.method = m → f.locked = none → f.entered = [] → (doReturn e (T.setTop f) acts v).1 = T.setFrames fs) → Steps p.tables e below t (T.setFrames fs)) : Go p e below s n0 Q kC kS t := by
  obtain ⟨⟨hx, hby, hZ, hown, hml, hret, hlocks, hnm⟩, locs, X, eT, N⟩ := X
  obtain ⟨fs, hr, hrun, hended, hW, hsame⟩ := X.leave (v := v) hv hlocks
  refine ⟨_, _, st locs fs hx hby hret X hr, hrun, hended, _, _, rfl, ⟨?_, N⟩, ⟨_, rfl⟩, hW, hsame.mono hk hn⟩
  show Q v T.heap
  rw [eT]; exact hQ
theorem retV (X : St p l e R s m args below meth c Z B own nm ml none n0 T h k n) {pc : Nat} {Ls : Array Slot} (hd : decode B pc = .ok (.return_, 1)) (hQ : Q none h) (hk : k ≤ kC) (hn : n ≤ kS) : Go p e below s n0 Q kC kS (T.setTop (mkF m pc Ls [])) :=
  leaveG X (v := none) (fun _ => rfl) hQ hk hn fun locs fs hx hby hret X hr => X.returnOut hx hret (by rw [hby]; exact hd) hr
theorem retB (X : St p l e R s m args below meth c Z B own nm ml (some .boolean) n0 T h k n) {pc : Nat} {Ls : Array Slot} {st : List Value} {z : Int32} (hd : decode B pc = .ok (.ireturn, 1)) (hz : z &&& 1 = z) (hQ : Q (some (.int z)) h) (hk : k ≤ kC) (hn : n ≤ kS) : Go p e below s n0 Q kC kS (T.setTop (mkF m pc Ls (.int z :: st))) :=
  leaveG X (v := some (.int z)) (fun q => by rw [X.1.2.2.2.2.2.1] at q; cases q) hQ hk hn fun locs fs hx hby hret X hr => retN X hx (t := .boolean) hret (by simp) (by rw [hby]; exact hd) (by intro f acts h1 h2 h3; rw [show nar .boolean z = z from hz]; exact hr f acts h1 h2 h3)
theorem bo_and (P : Prop) [Decidable P] : bo P &&& 1 = bo P := by unfold bo; split <;> decide
theorem retO (w : Value) (t : FieldType) {i : Instr} (X : St p l e R s m args below meth c Z B own nm ml (some t) n0 T h k n) {pc : Nat} {Ls : Array Slot} {st : List Value} (hd : decode B pc = .ok (i, 1)) (hw : narrow t w = w)
    (hi : (i = .ireturn ∧ (t = .int ∨ t = .boolean ∨ t = .byte ∨ t = .char ∨ t = .short) ∧ ∃ z, w = .int z) ∨ (i = .lreturn ∧ t = .long ∧ ∃ z, w = .long z) ∨ (i = .dreturn ∧ t = .double ∧ ∃ z, w = .double z) ∨ (i = .freturn ∧ t = .float ∧ ∃ z, w = .float z) ∨ (i = .areturn ∧ t.isReference = true ∧ w.isRef = true))
    (hQ : Q (some w) h) (hk : k ≤ kC) (hn : n ≤ kS) : Go p e below s n0 Q kC kS (T.setTop (mkF m pc Ls (w :: st))) :=
  leaveG X (v := some w) (fun q => by rw [X.1.2.2.2.2.2.1] at q; cases q) hQ hk hn fun locs fs hx hby hret X hr => retOut X hx hret hw hi (by rw [hby]; exact hd) hr
theorem retI (X : St p l e R s m args below meth c Z B own nm ml (some .int) n0 T h k n) {pc : Nat} {Ls : Array Slot} {st : List Value} {z : Int32} (hd : decode B pc = .ok (.ireturn, 1)) (hQ : Q (some (.int z)) h) (hk : k ≤ kC) (hn : n ≤ kS) : Go p e below s n0 Q kC kS (T.setTop (mkF m pc Ls (.int z :: st))) :=
  retO (.int z) .int X hd rfl (Or.inl ⟨rfl, Or.inl rfl, z, rfl⟩) hQ hk hn
theorem retD (X : St p l e R s m args below meth c Z B own nm ml (some .double) n0 T h k n) {pc : Nat} {Ls : Array Slot} {st : List Value} {z : UInt64} (hd : decode B pc = .ok (.dreturn, 1)) (hQ : Q (some (.double z)) h) (hk : k ≤ kC) (hn : n ≤ kS) : Go p e below s n0 Q kC kS (T.setTop (mkF m pc Ls (.double z :: st))) :=
  retO (.double z) .double X hd rfl (Or.inr (Or.inr (Or.inl ⟨rfl, rfl, z, rfl⟩))) hQ hk hn
theorem retA {t : FieldType} (X : St p l e R s m args below meth c Z B own nm ml (some t) n0 T h k n) {pc : Nat} {Ls : Array Slot} {st : List Value} {v : Value} (hd : decode B pc = .ok (.areturn, 1)) (ht : t.isReference = true) (hv : v.isRef = true) (hw : narrow t v = v) (hQ : Q (some v) h) (hk : k ≤ kC) (hn : n ≤ kS) : Go p e below s n0 Q kC kS (T.setTop (mkF m pc Ls (v :: st))) :=
  retO v t X hd hw (Or.inr (Or.inr (Or.inr (Or.inr ⟨rfl, ht, hv⟩)))) hQ hk hn
theorem getF_ (X : St p l e R s m args below meth c Z B own nm ml ret n0 T h k n) {a0 : Array Value} {R0 O f d host : String} {index pc : Nat} {Ls : Array Slot} {st : List Value} {a : Addr} {v : Value} (hd : decode B pc = .ok (.getfield index, 3)) (w : (Cond.fieldLink own index R0 f d).before a0 Z = true ∨ (Cond.fieldLinkNest own index R0 f d host).before a0 Z = true) (via : Via Z R0 O f d) (F : Fld Z h a O f d v)
    (r : ∀ T', St p l e R s m args below meth c Z B own nm ml ret n0 T' h k n → Go p e below s n0 Q kC kS (T'.setTop (mkF m (pc + 3) Ls (v :: st)))) : Go p e below s n0 Q kC kS (T.setTop (mkF m pc Ls (.ref a :: st))) := by
  obtain ⟨⟨hx, hby, hZ, hown, q⟩, locs, X, eT, N⟩ := X
  obtain ⟨T', X', e', st'⟩ := getF X hx hZ hown w via eT F (g := mkF m pc Ls (.ref a :: st)) rfl rfl (by rw [hby]; exact hd)
  exact (r T' ⟨⟨hx, hby, hZ, hown, q⟩, locs, X', e', N⟩).st st'
theorem putF_ (X : St p l e R s m args below meth c Z B own nm ml ret n0 T h k n) {a0 : Array Value} {R0 O f d host C : String} {index kk pc : Nat} {ty : FieldType} {Ls : Array Slot} {st : List Value} {a : Addr} {v old : Value} (hd : decode B pc = .ok (.putfield index, 3)) (w : (Cond.fieldLink own index R0 f d).before a0 Z = true ∨ (Cond.fieldLinkNest own index R0 f d host).before a0 Z = true) (via : Via Z R0 O f d) (F : Fld Z h a O f d old) (E : Exa Z h a C)
    (L : (Cond.lays C O f d).before a0 Z = true ∨ ((Cond.laysFinal C O f d).before a0 Z = true ∧ own = O ∧ nm = "<init>")) (wi : (Cond.instantiable C kk).before a0 Z = true) (hty : parseFieldDescriptor d = some ty) (hv : narrow ty v = v) (hf : fits ty v = true) (ha : n0 ≤ a)
    (r : ∀ T' h', St p l e R s m args below meth c Z B own nm ml ret n0 T' h' k n → Wr h h' a (Jvm.RoadKit.slotOf Z O f d) v → Go p e below s n0 Q kC kS (T'.setTop (mkF m (pc + 3) Ls st))) : Go p e below s n0 Q kC kS (T.setTop (mkF m pc Ls (v :: .ref a :: st))) := by
  obtain ⟨⟨hx, hby, hZ, hown, q1, q2, q3, q4⟩, locs, X, eT, N⟩ := X
  obtain ⟨T', h', X', e', W', st'⟩ := putF X hx hZ hown w via eT F E (L.imp id fun ⟨z1, z2, z3⟩ => ⟨z1, z2, q4.trans z3⟩) wi hty hv hf (g := mkF m pc Ls (v :: .ref a :: st)) rfl rfl (by rw [hby]; exact hd)
  exact (r T' h' ⟨⟨hx, hby, hZ, hown, q1, q2, q3, q4⟩, _, X', e', Fr.snoc X' N ha⟩ W').st st'
theorem getS_ (X : St p l e R s m args below meth c Z B own nm ml ret n0 T h k n) {a0 : Array Value} {R0 O f d host : String} {index pc : Nat} {Ls : Array Slot} {st : List Value} {v : Value} (hd : decode B pc = .ok (.getstatic index, 3)) (w : (Cond.fieldLink own index R0 f d).before a0 Z = true ∨ (Cond.fieldLinkNest own index R0 f d host).before a0 Z = true) (via : Via Z R0 O f d) (F : Sta Z h O f d v)
    (r : ∀ T', St p l e R s m args below meth c Z B own nm ml ret n0 T' h k n → Go p e below s n0 Q kC kS (T'.setTop (mkF m (pc + 3) Ls (v :: st)))) : Go p e below s n0 Q kC kS (T.setTop (mkF m pc Ls st)) := by
  obtain ⟨⟨hx, hby, hZ, hown, q⟩, locs, X, eT, N⟩ := X
  obtain ⟨T', X', e', st'⟩ := getS2 X hx hZ hown w via eT F (g := mkF m pc Ls st) rfl (by rw [hby]; exact hd)
  exact (r T' ⟨⟨hx, hby, hZ, hown, q⟩, locs, X', e', N⟩).st st'
theorem newO_ (X : St p l e R s m args below meth c Z B own nm ml ret n0 T h k n) {a0 : Array Value} {C : String} {index cnt pc : Nat} {Ls : Array Slot} {st : List Value} (hd : decode B pc = .ok (.new index, 3)) (w : (Cond.classLink own index C).before a0 Z = true) (wi : (Cond.instantiable C cnt).before a0 Z = true) (wz : (Cond.initialized C).before a0 Z = true) (hc : k + 1 ≤ R.cells) (hl : n + cnt ≤ R.slots)
    (r : ∀ T' h' a, a = h.size → St p l e R s m args below meth c Z B own nm ml ret n0 T' h' (k + 1) (n + cnt) → Ext h h' → Exa Z h' a C → (∀ {O f d : String} {ty : FieldType}, Laid Z a0 C O f d → parseFieldDescriptor d = some ty → Fld Z h' a O f d (defaultValue ty)) → Go p e below s n0 Q kC kS (T'.setTop (mkF m (pc + 3) Ls (.ref a :: st)))) : Go p e below s n0 Q kC kS (T.setTop (mkF m pc Ls st)) := by
  obtain ⟨⟨hx, hby, hZ, hown, q⟩, locs, X, eT, N⟩ := X
  obtain ⟨T', h', X', e', E', A', D', -, st'⟩ := newO X hx hZ hown w wi wz eT (g := mkF m pc Ls st) rfl (by rw [hby]; exact hd) hc hl
  exact (r T' h' _ rfl ⟨⟨hx, hby, hZ, hown, q⟩, locs, X', e', N⟩ E' A' D').st st'
theorem initO_ (X : St p l e R s m args below meth c Z B own nm ml ret n0 T h k n) {a0 : Array Value} {idx W pc : Nat} {Ls : Array Slot} {st : List Value} {a : Addr} (hd : decode B pc = .ok (.invokespecial idx, 3)) (w1 : (Cond.methodLink own idx Lib.objectInit).before a0 Z = true) (w2 : (Cond.instanceMethod Lib.objectInit).before a0 Z = true) (w3 : (Cond.code Lib.objectInit ⟨#[0xb1]⟩ 1 none).before a0 Z = true) (hsz : Ls.size = ml)
    (hf : 1 ≤ R.frames) (hW : 2 * 0 + (st.map fun v => v.category).sum ≤ W) (hl : W + 12 ≤ R.locals)
    (r : ∀ T', St p l e R s m args below meth c Z B own nm ml ret n0 T' h k n → Go p e below s n0 Q kC kS (T'.setTop (mkF m (pc + 3) Ls st))) : Go p e below s n0 Q kC kS (T.setTop (mkF m pc Ls (.ref a :: st))) := by
  obtain ⟨⟨hx, hby, hZ, hown, hml, q⟩, locs, X, eT, N⟩ := X
  obtain ⟨T', X', e', st'⟩ := initO X hx hZ hown w1 w2 w3 eT (g := mkF m pc Ls (.ref a :: st)) rfl (by rw [hml]; exact hsz) rfl (by rw [hby]; exact hd) hf hW hl
  exact (r T' ⟨⟨hx, hby, hZ, hown, hml, q⟩, locs, X', e', N⟩).st st'

theorem newP_ (X : St p l e R s m args below meth c Z B own nm ml ret n0 T h k n) {a0 : Array Value} {aty : ArrayType} {z : Int32} {pc : Nat} {Ls : Array Slot} {st : List Value} (cap : Nat) (ty : FieldType) (dv : Value) (ad : String) (hd : decode B pc = .ok (.newarray aty, 2)) (hty : newarray.typeOf aty = ty) (hdv : defaultValue ty = dv) (had : "[" ++ ty.toString = ad) (w : (Cond.arrayClass ty).before a0 Z = true) (hz : ¬ z < 0) (hcap : z.toNatClampNeg ≤ cap) (hb : cap * 8 ≤ 536870912) (hc : k + 1 ≤ R.cells) (hl : n + cap ≤ R.slots)
    (r : ∀ T' h' a kk, a = h.size → St p l e R s m args below meth c Z B own nm ml ret n0 T' h' (k + 1) (n + cap) → Ext h h' → Arv Z h' a kk ty z [] dv → Exa Z h' a ad → Go p e below s n0 Q kC kS (T'.setTop (mkF m (pc + 2) Ls (.ref a :: st)))) : Go p e below s n0 Q kC kS (T.setTop (mkF m pc Ls (.int z :: st))) := by
  subst hty hdv
  obtain ⟨⟨hx, hby, hZ, q⟩, locs, X, eT, N⟩ := X
  obtain ⟨T', h', cA, X', e', E', A', G', st'⟩ := newPE X hx hZ w eT (g := mkF m pc Ls (.int z :: st)) rfl (by rw [hby]; exact hd) rfl hz hcap hb hc hl had
  exact (r T' h' _ cA rfl ⟨⟨hx, hby, hZ, q⟩, locs, X', e', N⟩ E' (Arv.new A' hz) G').st st'
theorem alen_ (X : St p l e R s m args below meth c Z B own nm ml ret n0 T h k n) {kk : ClassId} {ty : FieldType} {z : Int32} {vs : List Value} {dv : Value} {a : Addr} {pc : Nat} {Ls : Array Slot} {st : List Value} (hd : decode B pc = .ok (.arraylength, 1)) (A : Arv Z h a kk ty z vs dv)
    (r : Go p e below s n0 Q kC kS (T.setTop (mkF m (pc + 1) Ls (.int z :: st)))) : Go p e below s n0 Q kC kS (T.setTop (mkF m pc Ls (.ref a :: st))) := by
  obtain ⟨⟨hx, rfl, hZ, -⟩, locs, X, eT, -⟩ := X
  obtain ⟨cl, A, -, S, hz, -⟩ := A
  rw [← len_of S hz] at r
  exact r.st fun u kk => X.arraylength (g := mkF m pc Ls (.ref a :: st)) hx (by rw [eT]; exact A.1) (State.isArrayOf_alike hZ.alike A.2.1) rfl rfl hd u kk
theorem daload_ (X : St p l e R s m args below meth c Z B own nm ml ret n0 T h k n) {kk : ClassId} {z j : Int32} {vs : List Value} {dv : Value} {v : UInt64} {a : Addr} {pc : Nat} {Ls : Array Slot} {st : List Value} (hd : decode B pc = .ok (.daload, 1)) (A : Arv Z h a kk .double z vs dv) (hj : ¬ j < 0 ∧ j < z) (hv : vs.getD j.toNatClampNeg dv = .double v)
    (r : Go p e below s n0 Q kC kS (T.setTop (mkF m (pc + 1) Ls (.double v :: st)))) : Go p e below s n0 Q kC kS (T.setTop (mkF m pc Ls (.int j :: .ref a :: st))) := by
  obtain ⟨⟨hx, rfl, hZ, -⟩, locs, X, eT, -⟩ := X
  obtain ⟨cl, A, -, S, hz, H, -⟩ := A
  exact r.st fun u kk => X.daload (g := mkF m pc Ls (.int j :: .ref a :: st)) hx (by rw [eT]; exact A.1) (State.isArrayOf_alike hZ.alike A.2.1) A.2.2 (inb_of S hj) (H.at (inb_of S hj) hv) rfl rfl hd u kk
theorem iaload_ (X : St p l e R s m args below meth c Z B own nm ml ret n0 T h k n) {kk : ClassId} {z j : Int32} {vs : List Value} {dv : Value} {v : Int32} {a : Addr} {pc : Nat} {Ls : Array Slot} {st : List Value} (hd : decode B pc = .ok (.iaload, 1)) (A : Arv Z h a kk .int z vs dv) (hj : ¬ j < 0 ∧ j < z) (hv : vs.getD j.toNatClampNeg dv = .int v)
    (r : Go p e below s n0 Q kC kS (T.setTop (mkF m (pc + 1) Ls (.int v :: st)))) : Go p e below s n0 Q kC kS (T.setTop (mkF m pc Ls (.int j :: .ref a :: st))) := by
  obtain ⟨⟨hx, rfl, hZ, -⟩, locs, X, eT, -⟩ := X
  obtain ⟨cl, A, -, S, hz, H, -⟩ := A
  exact r.st fun u kk => X.iaload (g := mkF m pc Ls (.int j :: .ref a :: st)) hx (by rw [eT]; exact A.1) (State.isArrayOf_alike hZ.alike A.2.1) A.2.2 (inb_of S hj) (H.at (inb_of S hj) hv) rfl rfl hd u kk
theorem laload_ (X : St p l e R s m args below meth c Z B own nm ml ret n0 T h k n) {kk : ClassId} {z j : Int32} {vs : List Value} {dv : Value} {v : Int64} {a : Addr} {pc : Nat} {Ls : Array Slot} {st : List Value} (hd : decode B pc = .ok (.laload, 1)) (A : Arv Z h a kk .long z vs dv) (hj : ¬ j < 0 ∧ j < z) (hv : vs.getD j.toNatClampNeg dv = .long v)
    (r : Go p e below s n0 Q kC kS (T.setTop (mkF m (pc + 1) Ls (.long v :: st)))) : Go p e below s n0 Q kC kS (T.setTop (mkF m pc Ls (.int j :: .ref a :: st))) := by
  obtain ⟨⟨hx, rfl, hZ, -⟩, locs, X, eT, -⟩ := X
  obtain ⟨cl, A, -, S, hz, H, -⟩ := A
  exact r.st fun u kk => X.laload (g := mkF m pc Ls (.int j :: .ref a :: st)) hx (by rw [eT]; exact A.1) (State.isArrayOf_alike hZ.alike A.2.1) A.2.2 (inb_of S hj) (H.at (inb_of S hj) hv) rfl rfl hd u kk
theorem aaload_ (X : St p l e R s m args below meth c Z B own nm ml ret n0 T h k n) {kk : ClassId} {ty : FieldType} {z j : Int32} {vs : List Value} {dv v : Value} {a : Addr} {pc : Nat} {Ls : Array Slot} {st : List Value} (hd : decode B pc = .ok (.aaload, 1)) (A : Arv Z h a kk ty z vs dv) (hty : ty.isReference = true) (hj : ¬ j < 0 ∧ j < z) (hv : vs.getD j.toNatClampNeg dv = v)
    (r : Go p e below s n0 Q kC kS (T.setTop (mkF m (pc + 1) Ls (v :: st)))) : Go p e below s n0 Q kC kS (T.setTop (mkF m pc Ls (.int j :: .ref a :: st))) := by
  obtain ⟨⟨hx, rfl, hZ, -⟩, locs, X, eT, -⟩ := X
  obtain ⟨cl, A, -, S, hz, H, -⟩ := A
  exact r.st fun u kk => X.aaload (g := mkF m pc Ls (.int j :: .ref a :: st)) hx (by rw [eT]; exact A.1) (State.isArrayOf_alike hZ.alike A.2.1) hty A.2.2 (inb_of S hj) (H.at (inb_of S hj) hv) rfl rfl hd u kk
theorem dastore_ (X : St p l e R s m args below meth c Z B own nm ml ret n0 T h k n) {kk : ClassId} {z j : Int32} {vs : List Value} {dv : Value} {v : UInt64} {a : Addr} {pc : Nat} {Ls : Array Slot} {st : List Value} (i : Nat) (hd : decode B pc = .ok (.dastore, 1)) (A : Arv Z h a kk .double z vs dv) (hj : ¬ j < 0 ∧ j < z) (hi : j.toNatClampNeg = i) (hl : i < vs.length) (ha : n0 ≤ a)
    (r : ∀ T' h', St p l e R s m args below meth c Z B own nm ml ret n0 T' h' k n → Wr h h' a j.toNatClampNeg (.double v) → Arv Z h' a kk .double z (vs.set i (.double v)) dv → Go p e below s n0 Q kC kS (T'.setTop (mkF m (pc + 1) Ls st))) : Go p e below s n0 Q kC kS (T.setTop (mkF m pc Ls (.double v :: .int j :: .ref a :: st))) := by
  obtain ⟨⟨hx, hby, hZ, q⟩, locs, X, eT, N⟩ := X
  obtain ⟨cl, A, q1, S, hz, H, F⟩ := A
  obtain ⟨T', h', X', e', W', st'⟩ := stD X hx hZ eT A (inb_of S hj) (g := mkF m pc Ls (.double v :: .int j :: .ref a :: st)) rfl rfl (by rw [hby]; exact hd)
  exact (r T' h' ⟨⟨hx, hby, hZ, q⟩, _, X', e', Fr.snoc X' N ha⟩ W' (Arv.set A q1 S hz H F rfl W' i hi hl)).st st'
theorem iastore_ (X : St p l e R s m args below meth c Z B own nm ml ret n0 T h k n) {kk : ClassId} {z j : Int32} {vs : List Value} {dv : Value} {v : Int32} {a : Addr} {pc : Nat} {Ls : Array Slot} {st : List Value} (i : Nat) (hd : decode B pc = .ok (.iastore, 1)) (A : Arv Z h a kk .int z vs dv) (hj : ¬ j < 0 ∧ j < z) (hi : j.toNatClampNeg = i) (hl : i < vs.length) (ha : n0 ≤ a)
    (r : ∀ T' h', St p l e R s m args below meth c Z B own nm ml ret n0 T' h' k n → Wr h h' a j.toNatClampNeg (.int v) → Arv Z h' a kk .int z (vs.set i (.int v)) dv → Go p e below s n0 Q kC kS (T'.setTop (mkF m (pc + 1) Ls st))) : Go p e below s n0 Q kC kS (T.setTop (mkF m pc Ls (.int v :: .int j :: .ref a :: st))) := by
  obtain ⟨⟨hx, hby, hZ, q⟩, locs, X, eT, N⟩ := X
  obtain ⟨cl, A, q1, S, hz, H, F⟩ := A
  obtain ⟨T', h', X', e', W', st'⟩ := stI X hx hZ eT A (inb_of S hj) (g := mkF m pc Ls (.int v :: .int j :: .ref a :: st)) rfl rfl (by rw [hby]; exact hd)
  exact (r T' h' ⟨⟨hx, hby, hZ, q⟩, _, X', e', Fr.snoc X' N ha⟩ W' (Arv.set A q1 S hz H F rfl W' i hi hl)).st st'
theorem lastore_ (X : St p l e R s m args below meth c Z B own nm ml ret n0 T h k n) {kk : ClassId} {z j : Int32} {vs : List Value} {dv : Value} {v : Int64} {a : Addr} {pc : Nat} {Ls : Array Slot} {st : List Value} (i : Nat) (hd : decode B pc = .ok (.lastore, 1)) (A : Arv Z h a kk .long z vs dv) (hj : ¬ j < 0 ∧ j < z) (hi : j.toNatClampNeg = i) (hl : i < vs.length) (ha : n0 ≤ a)
    (r : ∀ T' h', St p l e R s m args below meth c Z B own nm ml ret n0 T' h' k n → Wr h h' a j.toNatClampNeg (.long v) → Arv Z h' a kk .long z (vs.set i (.long v)) dv → Go p e below s n0 Q kC kS (T'.setTop (mkF m (pc + 1) Ls st))) : Go p e below s n0 Q kC kS (T.setTop (mkF m pc Ls (.long v :: .int j :: .ref a :: st))) := by
  obtain ⟨⟨hx, hby, hZ, q⟩, locs, X, eT, N⟩ := X
  obtain ⟨cl, A, q1, S, hz, H, F⟩ := A
  obtain ⟨T', h', X', e', W', st'⟩ := stJ X hx hZ eT A (inb_of S hj) (g := mkF m pc Ls (.long v :: .int j :: .ref a :: st)) rfl rfl (by rw [hby]; exact hd)
  exact (r T' h' ⟨⟨hx, hby, hZ, q⟩, _, X', e', Fr.snoc X' N ha⟩ W' (Arv.set A q1 S hz H F rfl W' i hi hl)).st st'
theorem castore_ (X : St p l e R s m args below meth c Z B own nm ml ret n0 T h k n) {kk : ClassId} {z j : Int32} {vs : List Value} {dv : Value} {v : Int32} {a : Addr} {pc : Nat} {Ls : Array Slot} {st : List Value} (i : Nat) (hd : decode B pc = .ok (.castore, 1)) (A : Arv Z h a kk .char z vs dv) (hj : ¬ j < 0 ∧ j < z) (hi : j.toNatClampNeg = i) (hl : i < vs.length) (ha : n0 ≤ a)
    (r : ∀ T' h', St p l e R s m args below meth c Z B own nm ml ret n0 T' h' k n → Wr h h' a j.toNatClampNeg (.int (nar .char v)) → Arv Z h' a kk .char z (vs.set i (.int (nar .char v))) dv → Go p e below s n0 Q kC kS (T'.setTop (mkF m (pc + 1) Ls st))) : Go p e below s n0 Q kC kS (T.setTop (mkF m pc Ls (.int v :: .int j :: .ref a :: st))) := by
  obtain ⟨⟨hx, hby, hZ, q⟩, locs, X, eT, N⟩ := X
  obtain ⟨cl, A, q1, S, hz, H, F⟩ := A
  obtain ⟨T', h', X', e', W', st'⟩ := stC X hx hZ eT A (inb_of S hj) (g := mkF m pc Ls (.int v :: .int j :: .ref a :: st)) rfl rfl (by rw [hby]; exact hd)
  exact (r T' h' ⟨⟨hx, hby, hZ, q⟩, _, X', e', Fr.snoc X' N ha⟩ W' (Arv.set A q1 S hz H F (fits_nar_char v) W' i hi hl)).st st'
theorem newRA_ (X : St p l e R s m args below meth c Z B own nm ml ret n0 T h k n) {a0 : Array Value} {C ad : String} {ty : FieldType} {index : Nat} {z : Int32} {pc : Nat} {Ls : Array Slot} {st : List Value} (cap : Nat) (hd : decode B pc = .ok (.anewarray index, 3)) (hC : (FieldType.array ty).toString = C) (had : "[" ++ C = ad) (w1 : (Cond.classLink own index C).before a0 Z = true) (w2 : (Cond.arrayOver (.array ty)).before a0 Z = true) (hz : ¬ z < 0) (hcap : z.toNatClampNeg ≤ cap) (hb : cap * 8 ≤ 536870912) (hc : k + 1 ≤ R.cells) (hl : n + cap ≤ R.slots)
    (r : ∀ T' h' a kk, a = h.size → St p l e R s m args below meth c Z B own nm ml ret n0 T' h' (k + 1) (n + cap) → Ext h h' → Arv Z h' a kk (.array ty) z [] .null → Exa Z h' a ad → OvrA Z kk ty C → Go p e below s n0 Q kC kS (T'.setTop (mkF m (pc + 3) Ls (.ref a :: st)))) : Go p e below s n0 Q kC kS (T.setTop (mkF m pc Ls (.int z :: st))) := by
  obtain ⟨⟨hx, hby, hZ, hown, q⟩, locs, X, eT, N⟩ := X
  obtain ⟨T', h', cA, X', e', E', A', G', O', st'⟩ := newRA X hx hZ hown hC w1 w2 eT (g := mkF m pc Ls (.int z :: st)) rfl (by rw [hby]; exact hd) rfl hz hcap hb hc hl had
  exact (r T' h' _ cA rfl ⟨⟨hx, hby, hZ, hown, q⟩, locs, X', e', N⟩ E' (Arv.new A' hz) G' O').st st'
theorem newRE_ (X : St p l e R s m args below meth c Z B own nm ml ret n0 T h k n) {a0 : Array Value} {C ad : String} {index : Nat} {z : Int32} {pc : Nat} {Ls : Array Slot} {st : List Value} (cap : Nat) (hd : decode B pc = .ok (.anewarray index, 3)) (had : "[" ++ (FieldType.object C).toString = ad) (w1 : (Cond.classLink own index C).before a0 Z = true) (w2 : (Cond.arrayOver (.object C)).before a0 Z = true) (hz : ¬ z < 0) (hcap : z.toNatClampNeg ≤ cap) (hb : cap * 8 ≤ 536870912) (hc : k + 1 ≤ R.cells) (hl : n + cap ≤ R.slots)
    (r : ∀ T' h' a kk, a = h.size → St p l e R s m args below meth c Z B own nm ml ret n0 T' h' (k + 1) (n + cap) → Ext h h' → Arv Z h' a kk (.object C) z [] .null → Exa Z h' a ad → Ovr Z kk C → Go p e below s n0 Q kC kS (T'.setTop (mkF m (pc + 3) Ls (.ref a :: st)))) : Go p e below s n0 Q kC kS (T.setTop (mkF m pc Ls (.int z :: st))) := by
  obtain ⟨⟨hx, hby, hZ, hown, q⟩, locs, X, eT, N⟩ := X
  obtain ⟨T', h', cA, X', e', E', A', G', O', st'⟩ := newRE X hx hZ hown w1 w2 eT (g := mkF m pc Ls (.int z :: st)) rfl (by rw [hby]; exact hd) rfl hz hcap hb hc hl had
  exact (r T' h' _ cA rfl ⟨⟨hx, hby, hZ, hown, q⟩, locs, X', e', N⟩ E' (Arv.new A' hz) G' O').st st'
theorem aastore_ (X : St p l e R s m args below meth c Z B own nm ml ret n0 T h k n) {kk : ClassId} {ty : FieldType} {z j : Int32} {vs : List Value} {dv v : Value} {a : Addr} {pc : Nat} {Ls : Array Slot} {st : List Value} (i : Nat) (hd : decode B pc = .ok (.aastore, 1)) (A : Arv Z h a kk ty z vs dv) (hty : ty.isReference = true) (hj : ¬ j < 0 ∧ j < z) (hi : j.toNatClampNeg = i) (hl : i < vs.length) (ha : n0 ≤ a) (hf : fits ty v = true) (F : ∀ cl : Cell, Arr Z h a cl ty → cl.cls = kk → Sto Z h a v)
    (r : ∀ T' h', St p l e R s m args below meth c Z B own nm ml ret n0 T' h' k n → Wr h h' a j.toNatClampNeg v → Arv Z h' a kk ty z (vs.set i v) dv → Go p e below s n0 Q kC kS (T'.setTop (mkF m (pc + 1) Ls st))) : Go p e below s n0 Q kC kS (T.setTop (mkF m pc Ls (v :: .int j :: .ref a :: st))) := by
  obtain ⟨⟨hx, hby, hZ, q⟩, locs, X, eT, N⟩ := X
  obtain ⟨cl, A, q1, S, hz, H, G⟩ := A
  obtain ⟨T', h', X', e', W', st'⟩ := stR X hx hZ eT A (inb_of S hj) hty (F cl A q1) (g := mkF m pc Ls (v :: .int j :: .ref a :: st)) rfl rfl (by rw [hby]; exact hd)
  exact (r T' h' ⟨⟨hx, hby, hZ, q⟩, _, X', e', Fr.snoc X' N ha⟩ W' (Arv.set A q1 S hz H G hf W' i hi hl)).st st'
theorem acmp_ (X : St p l e R s m args below meth c Z B own nm ml ret n0 T h k n) {cd : ACond} {pc pc' : Nat} {Ls : Array Slot} {st : List Value} {o : Int} {x y : Value} {same : Bool} (hd : decode B pc = .ok (.if_acmp cd o, 3)) (h1 : x.isRef = true) (h2 : y.isRef = true) (hq : decide (x = y) = same) (ho : 0 ≤ (pc : Int) + o) (hp : pc' = if acV cd same = true then ((pc : Int) + o).toNat else pc + 3)
    (r : Go p e below s n0 Q kC kS (T.setTop (mkF m pc' Ls st))) : Go p e below s n0 Q kC kS (T.setTop (mkF m pc Ls (y :: x :: st))) := by
  obtain ⟨⟨hx, rfl, -⟩, locs, X, -⟩ := X
  exact r.st fun u kk => Jvm.RoadKit.acmp (g := mkF m pc Ls (y :: x :: st)) X hx rfl h1 h2 rfl hd rfl hq ho hp kk

theorem gridM3_ (X : St p l e R s m args below meth c Z B own nm ml ret n0 T h k n) {a0 : Array Value} {C ad : String} {ty : FieldType} {index : Nat} {zk : Int32} {pc : Nat} {Ls : Array Slot} {st : List Value} (cap : Nat) (dv : Value) (hd : decode B pc = .ok (.multianewarray index 2, 4)) (hC : (FieldType.array ty).toString = C) (had : "[" ++ C = ad) (w1 : (Cond.classLink own index ad).before a0 Z = true) (w2 : (Cond.arrayOver (.array ty)).before a0 Z = true) (w3 : (Cond.arrayClass ty).before a0 Z = true) (hdv : defaultValue ty = dv) (hk : ¬ zk < 0) (hcap : zk.toNatClampNeg ≤ cap) (hb : cap * 8 ≤ 536870912) (hdf : fits ty (defaultValue ty) = true) (hdd : (defaultValue ty).isDefault = true) (hc : k + (1 + 3) ≤ R.cells) (hl : n + (3 + 3 * cap) ≤ R.slots)
    (r : ∀ T' h' a x0 x1 x2 kk comp, a = h.size → x0 = a + 1 → x1 = a + 2 → x2 = a + 3 → St p l e R s m args below meth c Z B own nm ml ret n0 T' h' (k + (1 + 3)) (n + (3 + 3 * cap)) → Ext h h' → Arv Z h' a kk (.array ty) 3 [.ref x0, .ref x1, .ref x2] .null → OvrA Z kk ty C → Exa Z h' a ad → Arv Z h' x0 comp ty zk [] dv → Arv Z h' x1 comp ty zk [] dv → Arv Z h' x2 comp ty zk [] dv → Exa Z h' x0 C → Exa Z h' x1 C → Exa Z h' x2 C → Go p e below s n0 Q kC kS (T'.setTop (mkF m (pc + 4) Ls (.ref a :: st)))) : Go p e below s n0 Q kC kS (T.setTop (mkF m pc Ls (.int zk :: .int 3 :: st))) := by
  subst hdv
  obtain ⟨⟨hx, hby, hZ, hown, q⟩, locs, X, eT, N⟩ := X
  obtain ⟨T', h', cA, comp, X', e', E', A', O', G', I', st'⟩ := gridM X hx hZ hown hC had w1 w2 w3 eT (g := mkF m pc Ls (.int zk :: .int 3 :: st)) rfl (by rw [hby]; exact hd) rfl (by decide) hk (xs := [h.size + 1 + 0, h.size + 1 + 1, h.size + 1 + 2]) (N := 3) rfl rfl hcap hb (by decide) hdf hdd hc hl
  exact (r T' h' _ _ _ _ cA comp rfl rfl rfl rfl ⟨⟨hx, hby, hZ, hown, q⟩, locs, X', e', N⟩ E' A' O' G' (Arv.new (I' 0 _ rfl).1 hk) (Arv.new (I' 1 _ rfl).1 hk) (Arv.new (I' 2 _ rfl).1 hk) (I' 0 _ rfl).2 (I' 1 _ rfl).2 (I' 2 _ rfl).2).st st'

theorem callS_ (X : St p l e R s m args below meth c Z B own nm ml ret n0 T h k n) {a0 : Array Value} {idx W pc : Nat} {Ls : Array Slot} {rest : List Value} {argsL : List Value} {y : MethodName} {bytes : ByteArray} {maxL : Nat} {rt : Option FieldType} {rm : Room} {Qc : Option Value → Heap → Prop} (hd : decode B pc = .ok (.invokestatic idx, 3)) (w1 : (Cond.methodLink own idx y).before a0 Z = true) (w2 : (Cond.static y).before a0 Z = true) (w3 : (Cond.initialized y.cls).before a0 Z = true) (w4 : (Cond.code y bytes maxL rt).before a0 Z = true)
    (hy : y.cls ≠ "java/lang/invoke/MethodHandle" ∧ y.cls ≠ "java/lang/invoke/VarHandle") (hM : Con l Z y [] bytes maxL rt rm argsL.toArray h n0 Qc) (hlen : ∀ sig, parseMethodDescriptor y.desc = some sig → argsL.length = sig.parameters.length) (hsz : Ls.size = ml) {stk : List Value} (hs : stk = argsL.reverse ++ rest)
    (hW : 2 * 0 + (rest.map fun v => v.category).sum ≤ W) (hf : rm.frames + 1 ≤ R.frames) (hl : W + (maxL + 11) + rm.locals ≤ R.locals) (hc : k + rm.cells ≤ R.cells) (hn : n + rm.slots ≤ R.slots)
    (r : ∀ T' h' v, St p l e R s m args below meth c Z B own nm ml ret n0 T' h' (k + rm.cells) (n + rm.slots) → Qc v h' → Go p e below s n0 Q kC kS (T'.setTop (mkF m (pc + 3) Ls (v.toList ++ rest)))) : Go p e below s n0 Q kC kS (T.setTop (mkF m pc Ls stk)) := by
  obtain ⟨⟨hx, hby, hZ, hown, hml, q⟩, locs, X, eT, N⟩ := X
  obtain ⟨v, vm1, ⟨T', L', k', n'⟩, -, X', ⟨Lc, ⟨hQ, N'⟩, l1, l2, l3⟩, st'⟩ := Jvm.LawKit.callS X hx (y := y) hown (mvT hZ w1) (mvT hZ w2) (mvT hZ w3) (mvT hZ w4) hy (backOf (Q := fun v h L => Qc v h ∧ Fr n0 L) hM hZ w4 w3 hf hl) (g := mkF m pc Ls stk) rfl (by rw [hml]; exact hsz) (argsL := argsL) (rest := rest) hlen hs hW (by rw [hby]; exact hd) (fun _ _ => ⟨rfl, eT, hc, hn⟩)
  dsimp only [Pt.U, Pt.locs, Pt.cells, Pt.slots] at X' l1 l2 l3 st' hQ
  subst l1 l2 l3
  exact (r T' T'.heap v ⟨⟨hx, hby, hZ, hown, hml, q⟩, _, X', rfl, Fr.app N N'⟩ hQ).st st'
theorem Go.tr {t t' : State} (r : Go p e below s n0 Q kC kS t') (q : Steps p.tables e below t t') : Go p e below s n0 Q kC kS t := r.st fun u kk => q.trans kk
theorem callI_ (X : St p l e R s m args below meth c Z B own nm ml ret n0 T h k n) {a0 : Array Value} {idx W pc : Nat} {Ls : Array Slot} {rest : List Value} {argsL : List Value} {a : Addr} {y : MethodName} {bytes : ByteArray} {maxL : Nat} {rm : Room} {Qc : Option Value → Heap → Prop} (hd : decode B pc = .ok (.invokespecial idx, 3)) (hin : y.name = "<init>") (w1 : (Cond.methodLink own idx y).before a0 Z = true) (w2 : (Cond.instanceMethod y).before a0 Z = true) (w3 : (Cond.initialized y.cls).before a0 Z = true) (w4 : (Cond.code y bytes maxL none).before a0 Z = true)
    (hy : y.cls ≠ "java/lang/invoke/MethodHandle" ∧ y.cls ≠ "java/lang/invoke/VarHandle") (hM : Con l Z y [] bytes maxL none rm (.ref a :: argsL).toArray h n0 Qc) (hlen : ∀ sig, parseMethodDescriptor y.desc = some sig → argsL.length = sig.parameters.length) (hsz : Ls.size = ml) {stk : List Value} (hs : stk = argsL.reverse ++ .ref a :: rest)
    (hW : 2 * 0 + (rest.map fun v => v.category).sum ≤ W) (hf : rm.frames + 1 ≤ R.frames) (hl : W + (maxL + 11) + rm.locals ≤ R.locals) (hc : k + rm.cells ≤ R.cells) (hn : n + rm.slots ≤ R.slots)
    (r : ∀ T' h' v, St p l e R s m args below meth c Z B own nm ml ret n0 T' h' (k + rm.cells) (n + rm.slots) → Qc v h' → Go p e below s n0 Q kC kS (T'.setTop (mkF m (pc + 3) Ls (v.toList ++ rest)))) : Go p e below s n0 Q kC kS (T.setTop (mkF m pc Ls stk)) := by
  obtain ⟨⟨hx, hby, hZ, hown, hml, q⟩, locs, X, eT, N⟩ := X
  obtain ⟨v, vm1, ⟨T', L', k', n'⟩, -, X', ⟨Lc, ⟨hQ, N'⟩, l1, l2, l3⟩, st'⟩ := X.specialBack hx (y := y) hin hown (mvT hZ w1) (mvT hZ w2) (mvT hZ w4) hy (backOf (Q := fun v h L => Qc v h ∧ Fr n0 L) hM hZ w4 w3 hf hl) (g := mkF m pc Ls stk) rfl (by rw [hml]; exact hsz) (Steps.refl _) (a := a) (argsL := argsL) (rest := rest) hlen hs hW (by rw [hby]; exact hd) (fun _ _ => ⟨rfl, eT, hc, hn⟩)
  dsimp only [Pt.U, Pt.locs, Pt.cells, Pt.slots] at X' l1 l2 l3 st' hQ
  subst l1 l2 l3
  exact (r T' T'.heap v ⟨⟨hx, hby, hZ, hown, hml, q⟩, _, X', rfl, Fr.app N N'⟩ hQ).tr st'
theorem callV_ (X : St p l e R s m args below meth c Z B own nm ml ret n0 T h k n) {a0 : Array Value} {idx W pc : Nat} {Ls : Array Slot} {rest : List Value} {argsL : List Value} {a : Addr} {C : String} {y z : MethodName} {bytes : ByteArray} {maxL : Nat} {rt : Option FieldType} {rm : Room} {Qc : Option Value → Heap → Prop} (hd : decode B pc = .ok (.invokevirtual idx, 3)) (w1 : (Cond.methodLink own idx y).before a0 Z = true) (w2 : (Cond.declares y).before a0 Z = true) (w5 : (Cond.selects C y z).before a0 Z = true) (w6 : (Cond.instanceMethod z).before a0 Z = true) (hzy : z = y) (w3 : (Cond.initialized z.cls).before a0 Z = true) (w4 : (Cond.code z bytes maxL rt).before a0 Z = true)
    (hy : y.cls ≠ "java/lang/invoke/MethodHandle" ∧ y.cls ≠ "java/lang/invoke/VarHandle") (E : Exa Z h a C) (hM : Con l Z z [] bytes maxL rt rm (.ref a :: argsL).toArray h n0 Qc) (hlen : ∀ sig, parseMethodDescriptor y.desc = some sig → argsL.length = sig.parameters.length) (hsz : Ls.size = ml) {stk : List Value} (hs : stk = argsL.reverse ++ .ref a :: rest)
    (hW : 2 * 0 + (rest.map fun v => v.category).sum ≤ W) (hf : rm.frames + 1 ≤ R.frames) (hl : W + (maxL + 11) + rm.locals ≤ R.locals) (hc : k + rm.cells ≤ R.cells) (hn : n + rm.slots ≤ R.slots)
    (r : ∀ T' h' v, St p l e R s m args below meth c Z B own nm ml ret n0 T' h' (k + rm.cells) (n + rm.slots) → Qc v h' → Go p e below s n0 Q kC kS (T'.setTop (mkF m (pc + 3) Ls (v.toList ++ rest)))) : Go p e below s n0 Q kC kS (T.setTop (mkF m pc Ls stk)) := by
  obtain ⟨⟨hx, hby, hZ, hown, hml, q⟩, locs, X, eT, N⟩ := X
  subst hzy
  obtain ⟨cq, kq, qa, qb, qc⟩ := isOf hZ eT E
  obtain ⟨v, vm1, ⟨T', L', k', n'⟩, -, X', ⟨Lc, ⟨hQ, N'⟩, l1, l2, l3⟩, st'⟩ := X.virtualBack hx (y := z) (z := z) hown (mvT hZ w1) (mvT hZ w2) (notFace_of_selects (args := #[]) (mvT hZ w5)) (mvT hZ w5) (mvT hZ w6) hy (backOf (Q := fun v h L => Qc v h ∧ Fr n0 L) hM hZ w4 w3 hf hl) qa qc (g := mkF m pc Ls stk) rfl (by rw [hml]; exact hsz) (Steps.refl _) (argsL := argsL) (rest := rest) hlen hs hW (by rw [hby]; exact hd) (fun _ _ => ⟨rfl, eT, hc, hn⟩)
  dsimp only [Pt.U, Pt.locs, Pt.cells, Pt.slots] at X' l1 l2 l3 st' hQ
  subst l1 l2 l3
  exact (r T' T'.heap v ⟨⟨hx, hby, hZ, hown, hml, q⟩, _, X', rfl, Fr.app N N'⟩ hQ).tr st'

theorem absD_ (X : St p l e R s m args below meth c Z B own nm ml ret n0 T h k n) {a0 : Array Value} {idx W pc : Nat} {Ls : Array Slot} {st : List Value} {x : UInt64} (hd : decode B pc = .ok (.invokestatic idx, 3)) (w1 : (Cond.methodLink own idx Jvm.Free.Fl.Abs.absDN).before a0 Z = true) (w2 : (Cond.static Jvm.Free.Fl.Abs.absDN).before a0 Z = true) (w3 : (Cond.initialized "java/lang/Math").before a0 Z = true) (w4 : (Cond.code Jvm.Free.Fl.Abs.absDN Jvm.Free.Fl.Abs.absDCode 2 (some .double)).before a0 Z = true) (nx : NoNaN64 x) (hlen : ∀ sig, parseMethodDescriptor "(D)D" = some sig → [Value.double x].length = sig.parameters.length) (hsz : Ls.size = ml)
    (hW : 2 * 0 + (st.map fun v => v.category).sum ≤ W) (hf : 1 ≤ R.frames) (hl : W + 13 ≤ R.locals) (hk : k ≤ R.cells) (hn : n ≤ R.slots)
    (r : ∀ T', St p l e R s m args below meth c Z B own nm ml ret n0 T' h k n → Go p e below s n0 Q kC kS (T'.setTop (mkF m (pc + 3) Ls (.double (x &&& 0x7fffffffffffffff) :: st)))) : Go p e below s n0 Q kC kS (T.setTop (mkF m pc Ls (.double x :: st))) := by
  obtain ⟨⟨hx, hby, hZ, hown, hml, q⟩, locs, X, eT, N⟩ := X
  obtain ⟨T', X', e', st'⟩ := natS X hx hZ hown w1 w2 w3 w4 (by decide) eT (W := W) (fun hc => Jvm.Free.Fl.Abs.absD_pays x hc hf hl) (g := mkF m pc Ls (.double x :: st)) rfl (by rw [hml]; exact hsz) (argsL := [.double x]) (rest := st) hlen rfl hW (by rw [hby]; exact hd) hk hn ⟨rfl, nx⟩ rfl
  exact (r T' ⟨⟨hx, hby, hZ, hown, hml, q⟩, locs, X', e', N⟩).st st'

theorem callP_ (X : St p l e R s m args below meth c Z B own nm ml ret n0 T h k n) {a0 : Array Value} {idx W pc : Nat} {Ls : Array Slot} {rest : List Value} {argsL : List Value} {a : Addr} {C D : String} {y z' z : MethodName} {bytes : ByteArray} {maxL : Nat} {rt : Option FieldType} {rm : Room} {Qc : Option Value → Heap → Prop} (hd : decode B pc = .ok (.invokevirtual idx, 3)) (w1 : (Cond.methodLink own idx y).before a0 Z = true) (w2 : (Cond.instanceMethod y).before a0 Z = true) (w5 : (Cond.selects D z' z).before a0 Z = true) (hz : z.cls = y.cls) (w6 : (Cond.privateMethod y).before a0 Z = true) (w3 : (Cond.initialized y.cls).before a0 Z = true) (w4 : (Cond.code y bytes maxL rt).before a0 Z = true)
    (hy : y.cls ≠ "java/lang/invoke/MethodHandle" ∧ y.cls ≠ "java/lang/invoke/VarHandle") (E : Exa Z h a C) (hM : Con l Z y [] bytes maxL rt rm (.ref a :: argsL).toArray h n0 Qc) (hlen : ∀ sig, parseMethodDescriptor y.desc = some sig → argsL.length = sig.parameters.length) (hsz : Ls.size = ml) {stk : List Value} (hs : stk = argsL.reverse ++ .ref a :: rest)
    (hW : 2 * 0 + (rest.map fun v => v.category).sum ≤ W) (hf : rm.frames + 1 ≤ R.frames) (hl : W + (maxL + 11) + rm.locals ≤ R.locals) (hc : k + rm.cells ≤ R.cells) (hn : n + rm.slots ≤ R.slots)
    (r : ∀ T' h' v, St p l e R s m args below meth c Z B own nm ml ret n0 T' h' (k + rm.cells) (n + rm.slots) → Qc v h' → Go p e below s n0 Q kC kS (T'.setTop (mkF m (pc + 3) Ls (v.toList ++ rest)))) : Go p e below s n0 Q kC kS (T.setTop (mkF m pc Ls stk)) := by
  obtain ⟨⟨hx, hby, hZ, hown, hml, q⟩, locs, X, eT, N⟩ := X
  obtain ⟨mk, methM, hnamed, hmethM, hstM, habM⟩ := Cond.instanceMethod_spec (args := args) (mvT hZ w2)
  obtain ⟨methM', cM, hmethM', -, -, -, -, -, -, hsigM⟩ := Cond.code_spec hnamed (mvT (args := args) hZ w4)
  cases hmethM.symm.trans hmethM'
  obtain ⟨c2, r2, m2, -, -, q3, -, kP, hkP, hkPi⟩ := Cond.selects_spec (args := args) (mvT hZ w5)
  have hcl : m2.cls = mk.cls := Option.some.inj ((findClass_of_methodNamed q3).symm.trans (by rw [hz]; exact findClass_of_methodNamed hnamed))
  rw [hcl] at hkP
  obtain ⟨cell, hcell, hobj⟩ := E.cell
  have hsel : selectMethod e.platform s.vm cell.cls mk = .method mk := selectMethod_private hmethM (Cond.privateMethod_at (mvP hZ w6 (args := args)) mk methM hnamed hmethM)
  obtain ⟨vm1, X1, step1⟩ := X.invokevirtual hx hown (mvT hZ w1) hnamed hmethM hstM hkP hkPi hy (a := a) (cell := cell) (by rw [eT]; exact hcell) hobj hsel hmethM habM hkP hkPi (g := mkF m pc Ls stk) rfl (argsL := argsL) (rest := rest) (hlen _ hsigM) hs (by rw [hby]; exact hd)
  obtain ⟨v, ⟨T', L', k', n'⟩, X', ⟨Lc, ⟨hQ, N'⟩, l1, l2, l3⟩, st'⟩ := (backOf (Q := fun v h L => Qc v h ∧ Fr n0 L) hM hZ w4 w3 hf hl) m meth c ⟨T.setVm vm1, locs, k, n⟩ { mkF m pc Ls stk with stack := rest } (.invokevirtual idx) mk (.ref a :: argsL).toArray X1 rfl (by rw [hml]; exact hsz) (by rw [hby]; exact hd) hW (X1.named hnamed) ⟨rfl, eT, hc, hn⟩
  dsimp only [Pt.U, Pt.locs, Pt.cells, Pt.slots] at X' l1 l2 l3 st' hQ
  subst l1 l2 l3
  exact (r T' T'.heap v ⟨⟨hx, hby, hZ, hown, hml, q⟩, _, X', rfl, Fr.app N N'⟩ hQ).tr ((step1 _ fun acts => by rw [doInvoke_state]; exact Steps.refl _).trans st')

theorem callSN_ (X : St p l e R s m args below meth c Z B own nm ml ret n0 T h k n) {a0 : Array Value} {host : String} {idx W pc : Nat} {Ls : Array Slot} {rest : List Value} {argsL : List Value} {y : MethodName} {bytes : ByteArray} {maxL : Nat} {rt : Option FieldType} {rm : Room} {Qc : Option Value → Heap → Prop} (hd : decode B pc = .ok (.invokestatic idx, 3)) (w1 : (Cond.methodLinkNest own idx y host).before a0 Z = true) (w2 : (Cond.static y).before a0 Z = true) (w3 : (Cond.initialized y.cls).before a0 Z = true) (w4 : (Cond.code y bytes maxL rt).before a0 Z = true)
    (hy : y.cls ≠ "java/lang/invoke/MethodHandle" ∧ y.cls ≠ "java/lang/invoke/VarHandle") (hM : Con l Z y [] bytes maxL rt rm argsL.toArray h n0 Qc) (hlen : ∀ sig, parseMethodDescriptor y.desc = some sig → argsL.length = sig.parameters.length) (hsz : Ls.size = ml) {stk : List Value} (hs : stk = argsL.reverse ++ rest)
    (hW : 2 * 0 + (rest.map fun v => v.category).sum ≤ W) (hf : rm.frames + 1 ≤ R.frames) (hl : W + (maxL + 11) + rm.locals ≤ R.locals) (hc : k + rm.cells ≤ R.cells) (hn : n + rm.slots ≤ R.slots)
    (r : ∀ T' h' v, St p l e R s m args below meth c Z B own nm ml ret n0 T' h' (k + rm.cells) (n + rm.slots) → Qc v h' → Go p e below s n0 Q kC kS (T'.setTop (mkF m (pc + 3) Ls (v.toList ++ rest)))) : Go p e below s n0 Q kC kS (T.setTop (mkF m pc Ls stk)) := by
  obtain ⟨⟨hx, hby, hZ, hown, hml, q⟩, locs, X, eT, N⟩ := X
  obtain ⟨v, vm1, ⟨T', L', k', n'⟩, -, X', ⟨Lc, ⟨hQ, N'⟩, l1, l2, l3⟩, st'⟩ := Jvm.RoadKit.callSN X hx (y := y) hown ((Cond.methodLinkNest_wide hZ w1 :) ) (mvT hZ w2) (mvT hZ w3) (mvT hZ w4) hy (backOf (Q := fun v h L => Qc v h ∧ Fr n0 L) hM hZ w4 w3 hf hl) (g := mkF m pc Ls stk) rfl (by rw [hml]; exact hsz) (argsL := argsL) (rest := rest) hlen hs hW (by rw [hby]; exact hd) (fun _ _ => ⟨rfl, eT, hc, hn⟩)
  dsimp only [Pt.U, Pt.locs, Pt.cells, Pt.slots] at X' l1 l2 l3 st' hQ
  subst l1 l2 l3
  exact (r T' T'.heap v ⟨⟨hx, hby, hZ, hown, hml, q⟩, _, X', rfl, Fr.app N N'⟩ hQ).tr st'

theorem signD_ (X : St p l e R s m args below meth c Z B own nm ml ret n0 T h k n) {a0 : Array Value} {idx W pc maxL : Nat} {bytes : ByteArray} {Ls : Array Slot} {st : List Value} {x : UInt64} (hd : decode B pc = .ok (.invokestatic idx, 3)) (w1 : (Cond.methodLink own idx Jvm.Free.NT.mathSignum64N).before a0 Z = true) (w2 : (Cond.static Jvm.Free.NT.mathSignum64N).before a0 Z = true) (w3 : (Cond.initialized "java/lang/Math").before a0 Z = true) (w4 : (Cond.code Jvm.Free.NT.mathSignum64N bytes maxL (some .double)).before a0 Z = true) (nx : NoNaN64 x) (hlen : ∀ sig, parseMethodDescriptor "(D)D" = some sig → [Value.double x].length = sig.parameters.length) (hsz : Ls.size = ml)
    (hW : 2 * 0 + (st.map fun v => v.category).sum ≤ W) (hf : 1 ≤ R.frames) (hl : W + (maxL + 11) ≤ R.locals) (hk : k ≤ R.cells) (hn : n ≤ R.slots)
    (r : ∀ T', St p l e R s m args below meth c Z B own nm ml ret n0 T' h k n → Go p e below s n0 Q kC kS (T'.setTop (mkF m (pc + 3) Ls (.double (Jvm.signum64 x) :: st)))) : Go p e below s n0 Q kC kS (T.setTop (mkF m pc Ls (.double x :: st))) := by
  obtain ⟨⟨hx, hby, hZ, hown, hml, q⟩, locs, X, eT, N⟩ := X
  obtain ⟨T', X', e', st'⟩ := natS X hx hZ hown w1 w2 w3 w4 (by decide) eT (W := W) (F := fun a' => a' = #[.double x] ∧ NoNaN64 x) (val := .double (Jvm.signum64 x)) (fun hc => by
    intro m' meth' c' A g ig mk a' X1 hg hsize hdg hW' hnamed ⟨_, _, ha', ha⟩
    obtain ⟨v, B', X2, ⟨hB, hv⟩, st2⟩ := (Jvm.Free.NT.Signum64.pays hc (mvT hZ w2) hf hl) m' meth' c' A g ig mk a' X1 hg hsize hdg hW' hnamed ⟨x, ha', Jvm.Free.Fl.Abs.dIsNaN_false ha⟩
    exact ⟨v, B', X2, ⟨hv x ⟨ha', Jvm.Free.Fl.Abs.dIsNaN_false ha⟩, hB⟩, st2⟩) (g := mkF m pc Ls (.double x :: st)) rfl (by rw [hml]; exact hsz) (argsL := [.double x]) (rest := st) hlen rfl hW (by rw [hby]; exact hd) hk hn ⟨rfl, nx⟩ rfl
  exact (r T' ⟨⟨hx, hby, hZ, hown, hml, q⟩, locs, X', e', N⟩).st st'
theorem nn_sign {x : UInt64} (h : NoNaN64 x) : NoNaN64 (Jvm.signum64 x) := by
  obtain ⟨o, ho⟩ := Jvm.Free.Fl.dcmp_of_noNaN h (b := 0) (by unfold NoNaN64; decide)
  cases o with
  | lt => rw [Jvm.FP.V.signum_neg ho]; unfold NoNaN64; decide
  | gt => rw [Jvm.FP.V.signum_pos ho]; unfold NoNaN64; decide
  | eq => rw [Jvm.FP.V.signum_zero ho]; exact h

theorem cpA_ (X : St p l e R s m args below meth c Z B own nm ml ret n0 T h k n) {a0 : Array Value} {idx W pc : Nat} {Ls : Array Slot} {rest : List Value} {a b : Addr} {ka kb : ClassId} {ty : FieldType} {z z' sp dp nn : Int32} {vs vd us : List Value} {dv dd : Value} (hd : decode B pc = .ok (.invokestatic idx, 3)) (w1 : (Cond.methodLink own idx Jvm.Stand.acN).before a0 Z = true) (w2 : (Cond.native Jvm.Stand.acN).before a0 Z = true) (w3 : (Cond.static Jvm.Stand.acN).before a0 Z = true) (w4 : (Cond.initialized "java/lang/System").before a0 Z = true)
    (A : Arv Z h a ka ty z vs dv) (V : Arv Z h b kb ty z' vd dd) (hty : refKind ty = false) (h1 : ¬ sp < 0) (h2 : ¬ dp < 0) (h3 : ¬ nn < 0) (h4 : sp.toNatClampNeg + nn.toNatClampNeg ≤ z.toNatClampNeg) (h5 : dp.toNatClampNeg + nn.toNatClampNeg ≤ z'.toNatClampNeg) (hus : us = (List.range nn.toNatClampNeg).map fun i => vs.getD (sp.toNatClampNeg + i) dv) (hl : dp.toNatClampNeg + nn.toNatClampNeg ≤ vd.length) (ge : n0 ≤ b) (hsz : Ls.size = ml)
    (hf : 1 ≤ R.frames) (hW : 2 * 0 + (rest.map fun v => v.category).sum ≤ W) (hlo : W + (nativeFrameWords "java/lang/System" "arraycopy" 5 + 11) ≤ R.locals)
    (r : ∀ T' h', St p l e R s m args below meth c Z B own nm ml ret n0 T' h' k n → Keep h h' [b] → Arv Z h' b kb ty z' (vd.take dp.toNatClampNeg ++ us ++ vd.drop (dp.toNatClampNeg + nn.toNatClampNeg)) dd → Go p e below s n0 Q kC kS (T'.setTop (mkF m (pc + 3) Ls rest))) : Go p e below s n0 Q kC kS (T.setTop (mkF m pc Ls (.int nn :: .int dp :: .ref b :: .int sp :: .ref a :: rest))) := by
  obtain ⟨⟨hx, hby, hZ, hown, hml, q⟩, locs, X, eT, N⟩ := X
  obtain ⟨T', h', L', X', e', N', K', V', st'⟩ := cpA X hx hZ hown w1 w2 w3 w4 eT A V (Or.inl ⟨rfl, hty⟩) h1 h2 h3 h4 h5 hus hl N ge (g := mkF m pc Ls (.int nn :: .int dp :: .ref b :: .int sp :: .ref a :: rest)) rfl (by rw [hml]; exact hsz) rfl (by rw [hby]; exact hd) hf hW hlo
  exact (r T' h' ⟨⟨hx, hby, hZ, hown, hml, q⟩, L', X', e', N'⟩ K' V').st st'
theorem clone_ (X : St p l e R s m args below meth c Z B own nm ml ret n0 T h k n) {a0 : Array Value} {ad : String} {idx W pc : Nat} {Ls : Array Slot} {rest : List Value} {a : Addr} {ka : ClassId} {ty : FieldType} {z : Int32} {vs : List Value} {dv : Value} (cap : Nat) (hd : decode B pc = .ok (.invokevirtual idx, 3)) (w1 : (Cond.methodLink own idx ⟨ad, "clone", "()Ljava/lang/Object;"⟩).before a0 Z = true) (w2 : (Cond.sameMethod ad "java/lang/Object" "clone" "()Ljava/lang/Object;").before a0 Z = true) (w3 : (Cond.native ⟨"java/lang/Object", "clone", "()Ljava/lang/Object;"⟩).before a0 Z = true)
    (w4 : (Cond.instanceMethod ⟨"java/lang/Object", "clone", "()Ljava/lang/Object;"⟩).before a0 Z = true) (w5 : (Cond.selects ad ⟨ad, "clone", "()Ljava/lang/Object;"⟩ ⟨"java/lang/Object", "clone", "()Ljava/lang/Object;"⟩).before a0 Z = true) (w6 : (Cond.castable ad "java/lang/Cloneable").before a0 Z = true)
    (F : Arv Z h a ka ty z vs dv) (E : Exa Z h a ad) (hsz : Ls.size = ml) (hf : 1 ≤ R.frames) (hW : 2 * 0 + (rest.map fun v => v.category).sum ≤ W) (hl : W + 14 ≤ R.locals) (hcap : z.toNatClampNeg ≤ cap) (hc : k + 1 ≤ R.cells) (hsl : n + cap ≤ R.slots)
    (r : ∀ T' h' b, b = h.size → St p l e R s m args below meth c Z B own nm ml ret n0 T' h' (k + 1) (n + cap) → Ext h h' → Arv Z h' b ka ty z vs dv → Exa Z h' b ad → Go p e below s n0 Q kC kS (T'.setTop (mkF m (pc + 3) Ls (.ref b :: rest)))) : Go p e below s n0 Q kC kS (T.setTop (mkF m pc Ls (.ref a :: rest))) := by
  obtain ⟨⟨hx, hby, hZ, hown, hml, q⟩, locs, X, eT, N⟩ := X
  obtain ⟨T', h', X', e', E', V', G', st'⟩ := cloneH X hx hZ hown w1 w2 w3 w4 w5 w6 eT F.arh E (g := mkF m pc Ls (.ref a :: rest)) rfl (by rw [hml]; exact hsz) rfl (by rw [hby]; exact hd) hf hW hl hcap hc hsl
  exact (r T' h' _ rfl ⟨⟨hx, hby, hZ, hown, hml, q⟩, locs, X', e', N⟩ E' V' G').st st'
theorem cast_ (X : St p l e R s m args below meth c Z B own nm ml ret n0 T h k n) {a0 : Array Value} {K : String} {idx pc : Nat} {Ls : Array Slot} {rest : List Value} {a : Addr} (hd : decode B pc = .ok (.checkcast idx, 3)) (w : (Cond.classLink own idx K).before a0 Z = true) (F : Ins Z h a K true)
    (r : ∀ T', St p l e R s m args below meth c Z B own nm ml ret n0 T' h k n → Go p e below s n0 Q kC kS (T'.setTop (mkF m (pc + 3) Ls (.ref a :: rest)))) : Go p e below s n0 Q kC kS (T.setTop (mkF m pc Ls (.ref a :: rest))) := by
  obtain ⟨⟨hx, hby, hZ, hown, q⟩, locs, X, eT, N⟩ := X
  obtain ⟨T', X', e', st'⟩ := castY X hx hZ hown w eT F (g := mkF m pc Ls (.ref a :: rest)) rfl rfl (by rw [hby]; exact hd)
  exact (r T' ⟨⟨hx, hby, hZ, hown, q⟩, locs, X', e', N⟩).st st'

theorem enter {y : MethodName} {ws : List Jvm.Cond} {rm : Room} {as : Array Value} {h0 : Heap} {Ls : Array Slot} {own nm : String} (hpl : plainFor y = true) (ho : y.cls = own) (hnm : y.name = nm) (hef : ∀ m, entryFrame m as ml = mkF m 0 Ls [])
    (body : ∀ p e s m below meth c T, St p l e rm s m as below meth c Z B own nm ml ret n0 T h0 0 0 → Go p e below s n0 Q rm.cells rm.slots (T.setTop (mkF m 0 Ls []))) : Con l Z y ws B ml ret rm as h0 n0 Q := by
  refine MetFree.of_bodySF hpl hisR ?_
  intro p e s m args below meth c s₁ Bd hml0 hP hK
  obtain ⟨rfl, hZ, hh⟩ := hP
  have X0 : Stand p l e rm s m _ below meth c s₁ [] 0 0 := Stand.of_body Bd
  have e0 : s₁.heap = h0 := by rw [← hh, Bd.state]; rfl
  rw [hef]
  exact body p e s m below meth c s₁ ⟨⟨Bd.exec, Bd.bytes, hZ, ho ▸ findClass_of_methodNamed Bd.named, hml0, Bd.returns, Bd.notSynchronized, (name_of_methodNamed Bd.named Bd.method).1.trans hnm⟩, [], X0, e0, Fr.nil n0⟩
theorem Con.imp {y : MethodName} {ws : List Jvm.Cond} {rm : Room} {as : Array Value} {h0 : Heap} {Q' : Option Value → Heap → Prop} (C : Con l Z y ws B ml ret rm as h0 n0 Q') (q : ∀ v h, Q' v h → Q v h) : Con l Z y ws B ml ret rm as h0 n0 Q := by
  intro p e ha hc hk s m args below hf happ hP hK
  obtain ⟨n, o, h1, h2, h3, v, L, h4, ⟨h5, h6⟩, h7⟩ := C p e ha hc hk s m args below hf happ hP hK
  exact ⟨n, o, h1, h2, h3, v, L, h4, ⟨q _ _ h5, h6⟩, h7⟩
end Kit
end Jvm.Own

namespace Jvm.Own
open Jvm.FP Jvm.FP.Core Jvm.Free.Fl
/-- one, in units of 2^-1074 -/
def U : Int := (one64 : Int)
theorem U_pos : 0 < U := by unfold U; have := one64_pos; omega
theorem U_pow : U = 2 ^ 1074 := by unfold U one64; exact Int.natCast_pow 2 1074
theorem U_lt {a b : Int} : a * U < b * U ↔ a < b := Int.mul_lt_mul_right U_pos
theorem U_le {a b : Int} : a * U ≤ b * U ↔ a ≤ b := Int.mul_le_mul_right U_pos
theorem U_eq {a b : Int} : a * U = b * U ↔ a = b := Int.mul_eq_mul_right_iff (by have := U_pos; omega)
theorem nn_0 : NoNaN64 0 := by unfold NoNaN64; decide
theorem nn_1 : NoNaN64 4607182418800017408 := by unfold NoNaN64; decide
theorem fin_0 : Fin64 0 := by unfold Fin64; decide
theorem fin_1 : Fin64 4607182418800017408 := by unfold Fin64; decide
theorem dz_0 : dz 0 = 0 := zval64_zero
theorem dz_int {i : Int} {v : UInt64} (h : DInt i v) : Fin64 v ∧ dz v = i * U := by
  refine ⟨fin64_core.mpr ?_, DInt_zval h⟩
  unfold DInt at h
  cases hv : val64 v with
  | nan => rw [hv] at h; exact h.elim
  | inf q => rw [hv] at h; exact h.elim
  | fin s c q => exact ⟨s, c, q, hv⟩
theorem dz_1 : dz 4607182418800017408 = U := by rw [(dz_int dint_one).2, Int.one_mul]
theorem i2d_v {x : Int32} {v : UInt64} (h : FP.i2d x = v) : Fin64 v ∧ dz v = x.toInt * U := h ▸ dz_int (i2d_int x)
theorem l2d_v {x : Int64} {v : UInt64} (h : FP.l2d x = v) (hx : x.toInt.natAbs ≤ 2 ^ 53) : Fin64 v ∧ dz v = x.toInt * U := h ▸ dz_int (l2d_int hx)
theorem fin_val {x : UInt64} (h : Fin64 x) : ∃ s c q, val64 x = .fin s c q := fin64_core.mp h
/-- the greatest magnitude, and one more -/
def Top : Nat := b64.tails * 2 ^ (b64.exps - 2)
theorem Top_pow : Top = 2 ^ 2098 := by unfold Top; rw [tails_b64, show b64.exps - 2 = 2046 from by decide, ← Nat.pow_add]
theorem fin_lt {x : UInt64} (h : Fin64 x) : (dz x).natAbs < Top := by
  have := (fin64_core.mp h).zval_lt
  show (signed _ _).natAbs < _
  rw [natAbs_signed]; exact this
theorem fin_of {x : UInt64} (h : NoNaN64 x) (q : (dz x).natAbs < Top) : Fin64 x := by
  refine fin64_core.mpr ?_
  cases hv : val64 x with
  | nan => exact absurd hv (val64_no.mp h)
  | inf s =>
    have : (dz x).natAbs = Top := by
      show (signed _ (zmag b64 (val64 x))).natAbs = _
      rw [natAbs_signed, hv]; rfl
    omega
  | fin s c q => exact ⟨s, c, q, hv⟩
/-- a number of at most 53 digits, at any place within reach, is a double -/
theorem rep (k : Int) (j : Nat) (hk : k.natAbs < 2 ^ 53) (hj : j ≤ 2040) : ∃ V : UInt64, Fin64 V ∧ dz V = k * 2 ^ j := by
  obtain ⟨c', q', h1, h2⟩ := round_exact good_b64 (decide (k < 0)) (c := k.natAbs) (q := b64.qmin + (j : Int)) hk (by omega) (by
    have : b64.qmax = b64.qmin + 2045 := by decide
    omega)
  have hf : Core.fits b64 (.fin (decide (k < 0)) c' q') := h1 ▸ round_fits good_b64 _
  refine ⟨of64 (.fin (decide (k < 0)) c' q'), fin64_core.mpr ⟨_, _, _, val64_of64 hf⟩, ?_⟩
  show zval b64 (val64 _) = _
  rw [val64_of64 hf]
  show signed _ (inUnits c' q' b64.qmin) = _
  rw [h2]
  unfold inUnits
  rw [show (b64.qmin + (j : Int) - b64.qmin).toNat = j by omega, signed_mul, show ((2 ^ j : Nat) : Int) = 2 ^ j from Int.natCast_pow 2 j]
  congr 1
  unfold signed
  by_cases q : k < 0 <;> simp [q, sgn] <;> omega
theorem repU (k : Int) (j : Nat) (hk : k.natAbs < 2 ^ 53) (hj : j ≤ 1074) : ∃ V : UInt64, Fin64 V ∧ dz V * 2 ^ j = k * U := by
  obtain ⟨V, h1, h2⟩ := rep k (1074 - j) hk (by omega)
  refine ⟨V, h1, ?_⟩
  rw [h2, Int.mul_assoc, ← Int.pow_add, show 1074 - j + j = 1074 by omega, U_pow]
/-! sums -/
theorem dadd_le {a b V : UInt64} (fa : Fin64 a) (fb : Fin64 b) (nV : NoNaN64 V) (h : dz a + dz b ≤ dz V) : dz (FP.dadd a b) ≤ dz V := by
  show zval b64 (val64 (Core.dadd a b)) ≤ _
  rw [val64_dadd]
  exact sum_le good_b64 (fin_val fa) (fin_val fb) (val64_fits a) (val64_fits b) (val64_fits V) (nn_val nV) h
theorem dadd_ge {a b V : UInt64} (fa : Fin64 a) (fb : Fin64 b) (nV : NoNaN64 V) (h : dz V ≤ dz a + dz b) : dz V ≤ dz (FP.dadd a b) := by
  show _ ≤ zval b64 (val64 (Core.dadd a b))
  rw [val64_dadd]
  exact sum_ge good_b64 (fin_val fa) (fin_val fb) (val64_fits a) (val64_fits b) (val64_fits V) (nn_val nV) h
theorem neg_fin {d : Datum} (h : ∃ s c q, d = .fin s c q) : ∃ s c q, negate d = .fin s c q := by
  obtain ⟨s, c, q, rfl⟩ := h; exact ⟨_, _, _, rfl⟩
theorem dsub_le {a b V : UInt64} (fa : Fin64 a) (fb : Fin64 b) (nV : NoNaN64 V) (h : dz a - dz b ≤ dz V) : dz (FP.dsub a b) ≤ dz V := by
  show zval b64 (val64 (Core.dsub a b)) ≤ _
  rw [val64_dsub]
  refine sum_le good_b64 (fin_val fa) (neg_fin (fin_val fb)) (val64_fits a) (negate_fits (val64_fits b)) (val64_fits V) (nn_val nV) ?_
  rw [zval_negate]; exact h
theorem dsub_ge {a b V : UInt64} (fa : Fin64 a) (fb : Fin64 b) (nV : NoNaN64 V) (h : dz V ≤ dz a - dz b) : dz V ≤ dz (FP.dsub a b) := by
  show _ ≤ zval b64 (val64 (Core.dsub a b))
  rw [val64_dsub]
  refine sum_ge good_b64 (fin_val fa) (neg_fin (fin_val fb)) (val64_fits a) (negate_fits (val64_fits b)) (val64_fits V) (nn_val nV) ?_
  rw [zval_negate]; exact h
/-- a sum that is a double is exact -/
theorem dadd_x {a b v V : UInt64} (e : FP.dadd a b = v) (fa : Fin64 a) (fb : Fin64 b) (fV : Fin64 V) (h : dz a + dz b = dz V) : Fin64 v ∧ dz v = dz a + dz b := by
  subst e
  have q : dz (FP.dadd a b) = dz a + dz b := by
    have h1 := dadd_le fa fb fV.noNaN (Int.le_of_eq h)
    have h2 := dadd_ge fa fb fV.noNaN (Int.le_of_eq h.symm)
    omega
  exact ⟨fin_of (dadd_out fa.noNaN fb) (by rw [q, h]; exact fin_lt fV), q⟩
theorem dsub_x {a b v V : UInt64} (e : FP.dsub a b = v) (fa : Fin64 a) (fb : Fin64 b) (fV : Fin64 V) (h : dz a - dz b = dz V) : Fin64 v ∧ dz v = dz a - dz b := by
  subst e
  have q : dz (FP.dsub a b) = dz a - dz b := by
    have h1 := dsub_le fa fb fV.noNaN (Int.le_of_eq h)
    have h2 := dsub_ge fa fb fV.noNaN (Int.le_of_eq h.symm)
    omega
  exact ⟨fin_of (dsub_out fa.noNaN fb) (by rw [q, h]; exact fin_lt fV), q⟩
/-! products -/
theorem zval_fin (f : Fmt) (s : Bool) (c : Nat) (q : Int) : zval f (.fin s c q) = signed s (inUnits c q f.qmin) := rfl
theorem signed_xor' (s t : Bool) (c d : Nat) : signed (s != t) (c * d) = signed s c * signed t d := signed_xor s t c d
theorem pow_two_qmin : ((2 ^ (b64.qmin - 2 * b64.qmin).toNat : Nat) : Int) = U := by
  unfold U; rw [← pow_qmin64]; rfl
theorem dmul_le {a b V : UInt64} (fa : Fin64 a) (fb : Fin64 b) (nV : NoNaN64 V) (h : dz a * dz b ≤ dz V * U) : dz (FP.dmul a b) ≤ dz V := by
  obtain ⟨s, c, q, ha⟩ := fin_val fa
  obtain ⟨t, d, r, hb⟩ := fin_val fb
  have fa' := val64_fits a
  have fb' := val64_fits b
  unfold dz at h ⊢
  show zval b64 (val64 (Core.dmul a b)) ≤ _
  rw [val64_dmul]
  rw [ha] at fa' h ⊢
  rw [hb] at fb' h ⊢
  obtain ⟨h1, h2, h3⟩ := product_units fa' fb'
  rw [h1]
  refine zval_round_le good_b64 (val64_fits V) (nn_val nV) (e0 := 2 * b64.qmin) (by decide) h2 ?_
  rw [h3, pow_two_qmin, signed_xor']
  exact h
theorem dmul_ge {a b V : UInt64} (fa : Fin64 a) (fb : Fin64 b) (nV : NoNaN64 V) (h : dz V * U ≤ dz a * dz b) : dz V ≤ dz (FP.dmul a b) := by
  obtain ⟨s, c, q, ha⟩ := fin_val fa
  obtain ⟨t, d, r, hb⟩ := fin_val fb
  have fa' := val64_fits a
  have fb' := val64_fits b
  unfold dz at h ⊢
  show _ ≤ zval b64 (val64 (Core.dmul a b))
  rw [val64_dmul]
  rw [ha] at fa' h ⊢
  rw [hb] at fb' h ⊢
  obtain ⟨h1, h2, h3⟩ := product_units fa' fb'
  rw [h1]
  refine zval_round_ge good_b64 (val64_fits V) (nn_val nV) (e0 := 2 * b64.qmin) (by decide) h2 ?_
  rw [h3, pow_two_qmin, signed_xor']
  exact h
theorem dmul_x {a b v V : UInt64} (e : FP.dmul a b = v) (fa : Fin64 a) (fb : Fin64 b) (fV : Fin64 V) (h : dz a * dz b = dz V * U) : Fin64 v ∧ dz v = dz V := by
  subst e
  have q : dz (FP.dmul a b) = dz V := by
    have h1 := dmul_le fa fb fV.noNaN (Int.le_of_eq h)
    have h2 := dmul_ge fa fb fV.noNaN (Int.le_of_eq h.symm)
    omega
  exact ⟨fin_of (dmul_out fa fb) (by rw [q]; exact fin_lt fV), q⟩
/-! quotients -/
theorem nz_of {b : UInt64} (h : dz b ≠ 0) : Nz64 b := nz64_core.mpr fun ⟨s, q, e⟩ => h (by
  show zval b64 (val64 b) = 0
  rw [e, zval_fin]; unfold inUnits; rw [Nat.zero_mul]; exact signed_zero s)
theorem quo_mag {s t : Bool} {c d : Nat} {q r : Int} (hx : Core.fits b64 (.fin s c q)) (hy : Core.fits b64 (.fin t d r)) :
    inUnits c (q - r) (2 * b64.qmin - r) = zmag b64 (.fin s c q) * one64 ∧ 2 ^ (b64.qmin - (2 * b64.qmin - r)).toNat * d = zmag b64 (.fin t d r) := by
  have h1 := hx.2.1
  have h2 := hy.2.1
  have hq : b64.qmin = -1074 := qmin_b64
  constructor
  · rw [← pow_qmin64]
    show c * _ = c * _ * _
    rw [Nat.mul_assoc, ← Nat.pow_add]; congr 2; omega
  · show _ = d * _
    rw [Nat.mul_comm]; congr 2; omega
theorem ddiv_val {a b : UInt64} {s t : Bool} {c d : Nat} {q r : Int} (ha : val64 a = .fin s c q) (hb : val64 b = .fin t d r) (hd : d ≠ 0) : val64 (FP.ddiv a b) = roundRatio b64 (s != t) c d (q - r) := by
  show val64 (Core.ddiv a b) = _
  rw [val64_ddiv, ha, hb]; simp only [quotient, if_neg hd]
theorem ddiv_zm {a b : UInt64} (fa : Fin64 a) (fb : Fin64 b) (hb : dz b ≠ 0) :
    sgn (val64 (FP.ddiv a b)) = (sgn (val64 a) != sgn (val64 b)) ∧
    (∀ V : UInt64, NoNaN64 V → zmag b64 (val64 a) * one64 ≤ zmag b64 (val64 V) * zmag b64 (val64 b) → zmag b64 (val64 (FP.ddiv a b)) ≤ zmag b64 (val64 V)) ∧
    (∀ V : UInt64, zmag b64 (val64 V) * zmag b64 (val64 b) ≤ zmag b64 (val64 a) * one64 → zmag b64 (val64 V) ≤ zmag b64 (val64 (FP.ddiv a b))) := by
  obtain ⟨s, c, q, ha⟩ := fin_val fa
  obtain ⟨t, d, r, hb'⟩ := fin_val fb
  have fa' := val64_fits a
  have fb' := val64_fits b
  rw [ha] at fa'
  rw [hb'] at fb'
  have hd : d ≠ 0 := by
    rintro rfl
    apply hb
    show zval b64 (val64 b) = 0
    rw [hb', zval_fin]; unfold inUnits; rw [Nat.zero_mul]; exact signed_zero t
  have hv := ddiv_val ha hb' hd
  obtain ⟨e1, e2⟩ := quo_mag fa' fb'
  have hq1 := fa'.2.1
  have hq2 := fb'.2.1
  have hqm : b64.qmin = -1074 := qmin_b64
  refine ⟨?_, fun V nV h => ?_, fun V h => ?_⟩
  · rw [hv, sgn_roundRatio, ha, hb']; rfl
  · rw [hv]
    refine zmag_roundRatio_le good_b64 (by omega) (val64_fits V) (nn_val nV) (e0 := 2 * b64.qmin - r) (by omega) (by omega) ?_
    rw [e1, Nat.mul_assoc, e2]
    rw [ha, hb'] at h
    exact h
  · rw [hv]
    refine zmag_roundRatio_ge good_b64 (by omega) (val64_fits V) (e0 := 2 * b64.qmin - r) (by omega) (by omega) ?_
    rw [e1, Nat.mul_assoc, e2]
    rw [ha, hb'] at h
    exact h
theorem dz_def (x : UInt64) : dz x = signed (sgn (val64 x)) (zmag b64 (val64 x)) := rfl
theorem ddiv_le {a b V : UInt64} (fa : Fin64 a) (fb : Fin64 b) (hb : 0 < dz b) (nV : NoNaN64 V) (h : dz a * U ≤ dz V * dz b) : dz (FP.ddiv a b) ≤ dz V := by
  obtain ⟨h1, h2, h3⟩ := ddiv_zm fa fb (by omega)
  have h2 := h2 V nV
  have h3 := h3 V
  have hU : U = (one64 : Int) := rfl
  rw [dz_def (FP.ddiv a b), h1]
  rw [hU] at h
  rw [dz_def V] at h ⊢
  rw [dz_def a] at h
  rw [dz_def b] at h hb
  have p1 := one64_pos
  generalize zmag b64 (val64 (FP.ddiv a b)) = R at *
  generalize zmag b64 (val64 V) = v at *
  generalize zmag b64 (val64 a) = x at *
  generalize zmag b64 (val64 b) = y at *
  generalize sgn (val64 a) = sa at *
  generalize sgn (val64 b) = sb at *
  generalize sgn (val64 V) = sv at *
  cases sb with
  | true => simp only [signed, if_true] at hb; omega
  | false =>
    simp only [signed, Bool.false_eq_true, if_false] at hb h ⊢
    have key : signed sv v * (y : Int) = signed sv (v * y) := (signed_mul sv v y).symm
    have key2 : signed sa x * (one64 : Int) = signed sa (x * one64) := (signed_mul sa x one64).symm
    have yp : 0 < y := by omega
    change signed sa x * (one64 : Int) ≤ signed sv v * (y : Int) at h
    change signed (sa != false) R ≤ signed sv v
    rw [key, key2] at h
    have z1 : x * one64 = 0 → x = 0 := fun e => (Nat.mul_eq_zero.mp e).resolve_right (by omega)
    have z2 : v * y = 0 → v = 0 := fun e => (Nat.mul_eq_zero.mp e).resolve_right (by omega)
    have z3 : v = 0 → v * y = 0 := fun e => by rw [e, Nat.zero_mul]
    have z4 : x = 0 → x * one64 = 0 := fun e => by rw [e, Nat.zero_mul]
    generalize v * y = vy at *
    generalize x * one64 = xo at *
    cases sa <;> cases sv <;> simp only [signed, Bool.bne_false, Bool.false_eq_true, if_true, if_false] at h ⊢
    · have := h2 (by omega); omega
    · have := h2 (by omega); omega
    · omega
    · have := h3 (by omega); omega
theorem ddiv_ge {a b V : UInt64} (fa : Fin64 a) (fb : Fin64 b) (hb : 0 < dz b) (nV : NoNaN64 V) (h : dz V * dz b ≤ dz a * U) : dz V ≤ dz (FP.ddiv a b) := by
  obtain ⟨h1, h2, h3⟩ := ddiv_zm fa fb (by omega)
  have h2 := h2 V nV
  have h3 := h3 V
  have hU : U = (one64 : Int) := rfl
  rw [dz_def (FP.ddiv a b), h1]
  rw [hU] at h
  rw [dz_def V] at h ⊢
  rw [dz_def a] at h
  rw [dz_def b] at h hb
  have p1 := one64_pos
  generalize zmag b64 (val64 (FP.ddiv a b)) = R at *
  generalize zmag b64 (val64 V) = v at *
  generalize zmag b64 (val64 a) = x at *
  generalize zmag b64 (val64 b) = y at *
  generalize sgn (val64 a) = sa at *
  generalize sgn (val64 b) = sb at *
  generalize sgn (val64 V) = sv at *
  cases sb with
  | true => simp only [signed, if_true] at hb; omega
  | false =>
    simp only [signed, Bool.false_eq_true, if_false] at hb h ⊢
    have key : signed sv v * (y : Int) = signed sv (v * y) := (signed_mul sv v y).symm
    have key2 : signed sa x * (one64 : Int) = signed sa (x * one64) := (signed_mul sa x one64).symm
    have yp : 0 < y := by omega
    change signed sv v * (y : Int) ≤ signed sa x * (one64 : Int) at h
    change signed sv v ≤ signed (sa != false) R
    rw [key, key2] at h
    have z1 : x * one64 = 0 → x = 0 := fun e => (Nat.mul_eq_zero.mp e).resolve_right (by omega)
    have z2 : v * y = 0 → v = 0 := fun e => (Nat.mul_eq_zero.mp e).resolve_right (by omega)
    have z3 : v = 0 → v * y = 0 := fun e => by rw [e, Nat.zero_mul]
    have z4 : x = 0 → x * one64 = 0 := fun e => by rw [e, Nat.zero_mul]
    generalize v * y = vy at *
    generalize x * one64 = xo at *
    cases sa <;> cases sv <;> simp only [signed, Bool.bne_false, Bool.false_eq_true, if_true, if_false] at h ⊢
    · have := h3 (by omega); omega
    · omega
    · have := h2 (by omega); omega
    · have := h2 (by omega); omega
theorem ddiv_nn {a b : UInt64} (fa : Fin64 a) (fb : Fin64 b) (hb : dz b ≠ 0) : NoNaN64 (FP.ddiv a b) := ddiv_out fa.noNaN fb (nz_of hb)
theorem ddiv_x {a b v V : UInt64} (e : FP.ddiv a b = v) (fa : Fin64 a) (fb : Fin64 b) (hb : 0 < dz b) (fV : Fin64 V) (h : dz a * U = dz V * dz b) : Fin64 v ∧ dz v = dz V := by
  subst e
  have q : dz (FP.ddiv a b) = dz V := by
    have h1 := ddiv_le fa fb hb fV.noNaN (Int.le_of_eq h)
    have h2 := ddiv_ge fa fb hb fV.noNaN (Int.le_of_eq h.symm)
    omega
  exact ⟨fin_of (ddiv_nn fa fb (by omega)) (by rw [q]; exact fin_lt fV), q⟩
/-! the sign turned -/
theorem xor_top (a : UInt64) : a.toNat = (FP.dneg a).toNat + 2 ^ 63 ∨ (FP.dneg a).toNat = a.toNat + 2 ^ 63 := by
  have hlt := a.toNat_lt
  have e : (FP.dneg a).toNat = a.toNat ^^^ 2 ^ 63 := by rw [dneg_xor, UInt64.toNat_xor]; rfl
  have hd : (FP.dneg a).toNat % 2 ^ 63 = a.toNat % 2 ^ 63 := by
    rw [e]
    apply Nat.eq_of_testBit_eq; intro i
    simp only [Nat.testBit_mod_two_pow, Nat.testBit_xor, Nat.testBit_two_pow]
    by_cases q : i < 63
    · have : ¬ (63 = i) := by omega
      simp [q, this]
    · simp [q]
  have hb : (FP.dneg a).toNat.testBit 63 = !(a.toNat.testBit 63) := by
    rw [e, Nat.testBit_xor, Nat.testBit_two_pow_self]; simp
  have hl2 : (FP.dneg a).toNat < 2 ^ 64 := (FP.dneg a).toNat_lt
  generalize (FP.dneg a).toNat = y at *
  generalize a.toNat = x at *
  simp only [Nat.testBit, Nat.shiftRight_eq_div_pow, Nat.and_comm 1, Nat.and_one_is_mod, bne_iff_ne] at hb
  by_cases q : x < 2 ^ 63
  · right
    have h1 : x / 2 ^ 63 = 0 := Nat.div_eq_of_lt q
    have h2 : y / 2 ^ 63 ≠ 0 := by
      intro z; rw [h1, z] at hb; simp at hb
    have h3 : ¬ y < 2 ^ 63 := fun z => h2 (Nat.div_eq_of_lt z)
    omega
  · left
    have h1 : x / 2 ^ 63 = 1 := by omega
    have h3 : y < 2 ^ 63 := by
      refine Nat.lt_of_not_le fun z => ?_
      have : y / 2 ^ 63 = 1 := by omega
      rw [h1, this] at hb; simp at hb
    omega
theorem dneg_val (a : UInt64) : val64 (FP.dneg a) = negate (val64 a) := val64_neg_bits (xor_top a)
theorem dz_neg (a : UInt64) : dz (FP.dneg a) = -dz a := by unfold dz; rw [dneg_val, zval_negate]
theorem nn_neg {a : UInt64} (h : NoNaN64 a) : NoNaN64 (FP.dneg a) := val64_no.mpr (by rw [dneg_val]; exact negate_ne_nan (val64_no.mp h))
theorem fin_neg {a : UInt64} (h : Fin64 a) : Fin64 (FP.dneg a) := fin_of (nn_neg h.noNaN) (by rw [dz_neg, Int.natAbs_neg]; exact fin_lt h)
end Jvm.Own
namespace Jvm.Own
open Jvm.FP Jvm.FP.Core Jvm.Free.Fl
theorem p2_pos (j : Nat) : (0 : Int) < 2 ^ j := Int.pow_pos (by decide)
/-! against k / 2^j: what is at most (at least) that rounds to at most (at least) that -/
theorem quo_le {a b v : UInt64} {p q : Int} (e : FP.ddiv a b = v) (fa : Fin64 a) (fb : Fin64 b) (ha : dz a = p * U) (hb : dz b = q * U) (hq : 0 < q) (k : Int) (j : Nat) (hk : k.natAbs < 2 ^ 53) (hj : j ≤ 1074) (h : p * 2 ^ j ≤ k * q) : dz v * 2 ^ j ≤ k * U := by
  obtain ⟨V, fV, hV⟩ := repU k j hk hj
  have hU := U_pos
  have hp := p2_pos j
  have hbp : 0 < dz b := by rw [hb]; exact Int.mul_pos hq hU
  have key : dz a * U ≤ dz V * dz b := by
    refine Int.le_of_mul_le_mul_right ?_ hp
    rw [ha, hb, show p * U * U * 2 ^ j = p * 2 ^ j * (U * U) by generalize U = u; ac_rfl, show dz V * (q * U) * 2 ^ j = dz V * 2 ^ j * (q * U) by generalize U = u; ac_rfl, hV, show k * U * (q * U) = k * q * (U * U) by generalize U = u; ac_rfl]
    exact Int.mul_le_mul_of_nonneg_right h (Int.le_of_lt (Int.mul_pos hU hU))
  rw [← hV, ← e]
  exact Int.mul_le_mul_of_nonneg_right (ddiv_le fa fb hbp fV.noNaN key) (Int.le_of_lt hp)
theorem quo_ge {a b v : UInt64} {p q : Int} (e : FP.ddiv a b = v) (fa : Fin64 a) (fb : Fin64 b) (ha : dz a = p * U) (hb : dz b = q * U) (hq : 0 < q) (k : Int) (j : Nat) (hk : k.natAbs < 2 ^ 53) (hj : j ≤ 1074) (h : k * q ≤ p * 2 ^ j) : k * U ≤ dz v * 2 ^ j := by
  obtain ⟨V, fV, hV⟩ := repU k j hk hj
  have hU := U_pos
  have hp := p2_pos j
  have hbp : 0 < dz b := by rw [hb]; exact Int.mul_pos hq hU
  have key : dz V * dz b ≤ dz a * U := by
    refine Int.le_of_mul_le_mul_right ?_ hp
    rw [ha, hb, show p * U * U * 2 ^ j = p * 2 ^ j * (U * U) by generalize U = u; ac_rfl, show dz V * (q * U) * 2 ^ j = dz V * 2 ^ j * (q * U) by generalize U = u; ac_rfl, hV, show k * U * (q * U) = k * q * (U * U) by generalize U = u; ac_rfl]
    exact Int.mul_le_mul_of_nonneg_right h (Int.le_of_lt (Int.mul_pos hU hU))
  rw [← hV, ← e]
  exact Int.mul_le_mul_of_nonneg_right (ddiv_ge fa fb hbp fV.noNaN key) (Int.le_of_lt hp)
theorem Top_U : (2 : Int) ^ 1000 * U < (Top : Int) := by
  rw [U_pow, ← Int.pow_add, Top_pow, show ((2 ^ 2098 : Nat) : Int) = 2 ^ 2098 from Int.natCast_pow 2 2098]
  exact Int.pow_lt_pow_of_lt (by decide) (by decide)
theorem fin_bd {v : UInt64} (n : NoNaN64 v) (h1 : -(2 ^ 1000 * U) ≤ dz v) (h2 : dz v ≤ 2 ^ 1000 * U) : Fin64 v := fin_of n (by have := Top_U; omega)
theorem add_le {a b v : UInt64} (e : FP.dadd a b = v) (fa : Fin64 a) (fb : Fin64 b) (k : Int) (j : Nat) (hk : k.natAbs < 2 ^ 53) (hj : j ≤ 1074) (h : (dz a + dz b) * 2 ^ j ≤ k * U) : dz v * 2 ^ j ≤ k * U := by
  obtain ⟨V, fV, hV⟩ := repU k j hk hj
  have hp := p2_pos j
  rw [← hV] at h ⊢
  rw [← e]
  exact Int.mul_le_mul_of_nonneg_right (dadd_le fa fb fV.noNaN (Int.le_of_mul_le_mul_right h hp)) (Int.le_of_lt hp)
theorem add_ge {a b v : UInt64} (e : FP.dadd a b = v) (fa : Fin64 a) (fb : Fin64 b) (k : Int) (j : Nat) (hk : k.natAbs < 2 ^ 53) (hj : j ≤ 1074) (h : k * U ≤ (dz a + dz b) * 2 ^ j) : k * U ≤ dz v * 2 ^ j := by
  obtain ⟨V, fV, hV⟩ := repU k j hk hj
  have hp := p2_pos j
  rw [← hV] at h ⊢
  rw [← e]
  exact Int.mul_le_mul_of_nonneg_right (dadd_ge fa fb fV.noNaN (Int.le_of_mul_le_mul_right h hp)) (Int.le_of_lt hp)
theorem sub_le {a b v : UInt64} (e : FP.dsub a b = v) (fa : Fin64 a) (fb : Fin64 b) (k : Int) (j : Nat) (hk : k.natAbs < 2 ^ 53) (hj : j ≤ 1074) (h : (dz a - dz b) * 2 ^ j ≤ k * U) : dz v * 2 ^ j ≤ k * U := by
  obtain ⟨V, fV, hV⟩ := repU k j hk hj
  have hp := p2_pos j
  rw [← hV] at h ⊢
  rw [← e]
  exact Int.mul_le_mul_of_nonneg_right (dsub_le fa fb fV.noNaN (Int.le_of_mul_le_mul_right h hp)) (Int.le_of_lt hp)
theorem sub_ge {a b v : UInt64} (e : FP.dsub a b = v) (fa : Fin64 a) (fb : Fin64 b) (k : Int) (j : Nat) (hk : k.natAbs < 2 ^ 53) (hj : j ≤ 1074) (h : k * U ≤ (dz a - dz b) * 2 ^ j) : k * U ≤ dz v * 2 ^ j := by
  obtain ⟨V, fV, hV⟩ := repU k j hk hj
  have hp := p2_pos j
  rw [← hV] at h ⊢
  rw [← e]
  exact Int.mul_le_mul_of_nonneg_right (dsub_ge fa fb fV.noNaN (Int.le_of_mul_le_mul_right h hp)) (Int.le_of_lt hp)
/-- a sum, a difference of dyadics that is one of at most 53 digits is exact -/
theorem add_x {a b v : UInt64} (e : FP.dadd a b = v) (fa : Fin64 a) (fb : Fin64 b) (k : Int) (j : Nat) (hk : k.natAbs < 2 ^ 53) (hj : j ≤ 1074) (h : (dz a + dz b) * 2 ^ j = k * U) : Fin64 v ∧ dz v = dz a + dz b := by
  obtain ⟨V, fV, hV⟩ := repU k j hk hj
  exact dadd_x e fa fb fV (Int.eq_of_mul_eq_mul_right (by have := p2_pos j; omega) (h.trans hV.symm))
theorem sub_x {a b v : UInt64} (e : FP.dsub a b = v) (fa : Fin64 a) (fb : Fin64 b) (k : Int) (j : Nat) (hk : k.natAbs < 2 ^ 53) (hj : j ≤ 1074) (h : (dz a - dz b) * 2 ^ j = k * U) : Fin64 v ∧ dz v = dz a - dz b := by
  obtain ⟨V, fV, hV⟩ := repU k j hk hj
  exact dsub_x e fa fb fV (Int.eq_of_mul_eq_mul_right (by have := p2_pos j; omega) (h.trans hV.symm))
theorem quo_x {a b v : UInt64} {p q : Int} (e : FP.ddiv a b = v) (fa : Fin64 a) (fb : Fin64 b) (ha : dz a = p * U) (hb : dz b = q * U) (hq : 0 < q) (k : Int) (j : Nat) (hk : k.natAbs < 2 ^ 53) (hj : j ≤ 1074) (h : p * 2 ^ j = k * q) : Fin64 v ∧ dz v * 2 ^ j = k * U := by
  obtain ⟨V, fV, hV⟩ := repU k j hk hj
  have h1 := quo_le e fa fb ha hb hq k j hk hj (Int.le_of_eq h)
  have h2 := quo_ge e fa fb ha hb hq k j hk hj (Int.le_of_eq h.symm)
  have h3 : dz v * 2 ^ j = k * U := by omega
  have h4 : dz v = dz V := Int.eq_of_mul_eq_mul_right (by have := p2_pos j; omega) (h3.trans hV.symm)
  refine ⟨fin_of ?_ (by rw [h4]; exact fin_lt fV), h3⟩
  rw [← e]
  exact ddiv_nn fa fb (by rw [hb]; have := Int.mul_pos hq U_pos; omega)
theorem quo_nn {a b v : UInt64} {q : Int} (e : FP.ddiv a b = v) (fa : Fin64 a) (fb : Fin64 b) (hb : dz b = q * U) (hq : 0 < q) : NoNaN64 v := by
  rw [← e]; exact ddiv_nn fa fb (by rw [hb]; have := Int.mul_pos hq U_pos; omega)
end Jvm.Own
namespace Jvm.Own
open Jvm.FP Jvm.FP.Core Jvm.Free.Fl
theorem fin_2 : Fin64 4611686018427387904 := by unfold Fin64; decide
theorem nz_2 : Nz64 4611686018427387904 := by unfold Nz64; decide
theorem dz_2 : dz 4611686018427387904 = 2 * U := by
  have e : FP.dadd 4607182418800017408 4607182418800017408 = 4611686018427387904 := by decide +kernel
  have h := (add_x e fin_1 fin_1 2 0 (by decide) (by decide) (by rw [dz_1, Int.pow_zero]; omega)).2
  rw [h, dz_1]; omega
end Jvm.Own
namespace Jvm.Own
theorem ite_I {P : Prop} [Decidable P] {a b v : Int32} (e : (if P then a else b) = v) : (P → v.toInt = a.toInt) ∧ (¬ P → v.toInt = b.toInt) := by
  subst e; exact ⟨fun q => by rw [if_pos q], fun q => by rw [if_neg q]⟩
end Jvm.Own
namespace Jvm.Own
open Jvm.FP Jvm.FP.Core Jvm.Free.Fl
theorem add0 {a v : UInt64} (e : FP.dadd a 0 = v) (fa : Fin64 a) : Fin64 v ∧ dz v = dz a := by
  obtain ⟨h1, h2⟩ := dadd_x e fa fin_0 fa (by rw [dz_0]; omega)
  exact ⟨h1, by rw [h2, dz_0]; omega⟩
end Jvm.Own
namespace Jvm.Own
open Jvm.FP Jvm.FP.Core Jvm.Free.Fl
/-! a divisor below nought -/
theorem ddiv_leN {a b V : UInt64} (fa : Fin64 a) (fb : Fin64 b) (hb : dz b < 0) (nV : NoNaN64 V) (h : dz V * dz b ≤ dz a * U) : dz (FP.ddiv a b) ≤ dz V := by
  obtain ⟨h1, h2, h3⟩ := ddiv_zm fa fb (by omega)
  have h2 := h2 V nV
  have h3 := h3 V
  have hU : U = (one64 : Int) := rfl
  rw [dz_def (FP.ddiv a b), h1]
  rw [hU] at h
  rw [dz_def V] at h ⊢
  rw [dz_def a] at h
  rw [dz_def b] at h hb
  have p1 := one64_pos
  generalize zmag b64 (val64 (FP.ddiv a b)) = R at *
  generalize zmag b64 (val64 V) = v at *
  generalize zmag b64 (val64 a) = x at *
  generalize zmag b64 (val64 b) = y at *
  generalize sgn (val64 a) = sa at *
  generalize sgn (val64 b) = sb at *
  generalize sgn (val64 V) = sv at *
  cases sb with
  | false => simp only [signed, Bool.false_eq_true, if_false] at hb; omega
  | true =>
    simp only [signed, if_true] at hb
    change signed sv v * (-(y : Int)) ≤ signed sa x * (one64 : Int) at h
    change signed (sa != true) R ≤ signed sv v
    have key : signed sv v * (y : Int) = signed sv (v * y) := (signed_mul sv v y).symm
    have key2 : signed sa x * (one64 : Int) = signed sa (x * one64) := (signed_mul sa x one64).symm
    have yp : 0 < y := by omega
    rw [Int.mul_neg, key, key2] at h
    have z2 : v * y = 0 → v = 0 := fun e => (Nat.mul_eq_zero.mp e).resolve_right (by omega)
    have z3 : v = 0 → v * y = 0 := fun e => by rw [e, Nat.zero_mul]
    have z4 : x = 0 → x * one64 = 0 := fun e => by rw [e, Nat.zero_mul]
    generalize v * y = vy at *
    generalize x * one64 = xo at *
    cases sa <;> cases sv <;> simp only [signed, Bool.bne_true, Bool.not_false, Bool.not_true, Bool.false_eq_true, if_true, if_false] at h ⊢
    · omega
    · have := h3 (by omega); omega
    · have := h2 (by omega); omega
    · have := h2 (by omega); omega
theorem ddiv_geN {a b V : UInt64} (fa : Fin64 a) (fb : Fin64 b) (hb : dz b < 0) (nV : NoNaN64 V) (h : dz a * U ≤ dz V * dz b) : dz V ≤ dz (FP.ddiv a b) := by
  obtain ⟨h1, h2, h3⟩ := ddiv_zm fa fb (by omega)
  have h2 := h2 V nV
  have h3 := h3 V
  have hU : U = (one64 : Int) := rfl
  rw [dz_def (FP.ddiv a b), h1]
  rw [hU] at h
  rw [dz_def V] at h ⊢
  rw [dz_def a] at h
  rw [dz_def b] at h hb
  have p1 := one64_pos
  generalize zmag b64 (val64 (FP.ddiv a b)) = R at *
  generalize zmag b64 (val64 V) = v at *
  generalize zmag b64 (val64 a) = x at *
  generalize zmag b64 (val64 b) = y at *
  generalize sgn (val64 a) = sa at *
  generalize sgn (val64 b) = sb at *
  generalize sgn (val64 V) = sv at *
  cases sb with
  | false => simp only [signed, Bool.false_eq_true, if_false] at hb; omega
  | true =>
    simp only [signed, if_true] at hb
    change signed sa x * (one64 : Int) ≤ signed sv v * (-(y : Int)) at h
    change signed sv v ≤ signed (sa != true) R
    have key : signed sv v * (y : Int) = signed sv (v * y) := (signed_mul sv v y).symm
    have key2 : signed sa x * (one64 : Int) = signed sa (x * one64) := (signed_mul sa x one64).symm
    have yp : 0 < y := by omega
    rw [Int.mul_neg, key, key2] at h
    have z2 : v * y = 0 → v = 0 := fun e => (Nat.mul_eq_zero.mp e).resolve_right (by omega)
    have z3 : v = 0 → v * y = 0 := fun e => by rw [e, Nat.zero_mul]
    have z4 : x = 0 → x * one64 = 0 := fun e => by rw [e, Nat.zero_mul]
    generalize v * y = vy at *
    generalize x * one64 = xo at *
    cases sa <;> cases sv <;> simp only [signed, Bool.bne_true, Bool.not_false, Bool.not_true, Bool.false_eq_true, if_true, if_false] at h ⊢
    · have := h2 (by omega); omega
    · have := h2 (by omega); omega
    · have := h3 (by omega); omega
    · omega
/-- a whole number's multiple, divided by it -/
theorem ddiv_mul {a b v : UInt64} {m q : Int} (e : FP.ddiv a b = v) (fa : Fin64 a) (fb : Fin64 b) (ha : dz a = m * q * U) (hb : dz b = q * U) (hq : q ≠ 0) (hm : m.natAbs < 2 ^ 53) : NoNaN64 v ∧ dz v = m * U := by
  obtain ⟨V, fV, hV⟩ := repU m 0 hm (by decide)
  rw [Int.pow_zero, Int.mul_one] at hV
  have hU := U_pos
  have k1 : dz a * U = dz V * dz b := by rw [ha, hb, hV]; generalize U = u; ac_rfl
  have hbz : dz b ≠ 0 := by rw [hb]; intro z; rcases Int.mul_eq_zero.mp z with z | z <;> omega
  subst e
  refine ⟨ddiv_nn fa fb hbz, ?_⟩
  rw [← hV]
  rcases Int.lt_or_gt_of_ne hbz with z | z
  · exact Int.le_antisymm (ddiv_leN fa fb z fV.noNaN (Int.le_of_eq k1.symm)) (ddiv_geN fa fb z fV.noNaN (Int.le_of_eq k1))
  · exact Int.le_antisymm (ddiv_le fa fb z fV.noNaN (Int.le_of_eq k1)) (ddiv_ge fa fb z fV.noNaN (Int.le_of_eq k1.symm))
end Jvm.Own
namespace Jvm.Own
open Jvm.FP Jvm.FP.Core Jvm.Free.Fl
theorem abs_max {u : UInt64} (h : Fin64 u) : dz (u &&& 0x7fffffffffffffff) ≤ dz 9218868437227405311 :=
  (dcmp_le.mp ((le_max (noNaN64_no.mp h.noNaN)).mpr (fin64_core.mp h))).2.2
end Jvm.Own
namespace Jvm.Own
open Jvm.FP Jvm.FP.Core Jvm.Free.Fl
/-- finite, and of a magnitude of at most A -/
def Bd (x : UInt64) (A : Int) : Prop := Fin64 x ∧ -(A * U) ≤ dz x ∧ dz x ≤ A * U
theorem Bd.fin {x : UInt64} {A : Int} (h : Bd x A) : Fin64 x := h.1
theorem big_U {A : Int} (h : A.natAbs < 2 ^ 53) : A * U ≤ 2 ^ 1000 * U ∧ -(2 ^ 1000 * U) ≤ A * U := by
  have z : (2 : Int) ^ 53 ≤ 2 ^ 1000 := by
    have h1 := Nat.pow_le_pow_right (n := 2) (by decide) (show 53 ≤ 1000 by decide)
    have e1 : ((2 ^ 53 : Nat) : Int) = 2 ^ 53 := Int.natCast_pow 2 53
    have e2 : ((2 ^ 1000 : Nat) : Int) = 2 ^ 1000 := Int.natCast_pow 2 1000
    rw [← e1, ← e2]; exact Int.ofNat_le.mpr h1
  have e : (2 : Int) ^ 53 = 9007199254740992 := by decide
  have hU := U_pos
  have a1 : A * U ≤ 2 ^ 1000 * U := Int.mul_le_mul_of_nonneg_right (by omega) (Int.le_of_lt hU)
  have a2 : (-(2 ^ 1000)) * U ≤ A * U := Int.mul_le_mul_of_nonneg_right (by omega) (Int.le_of_lt hU)
  rw [Int.neg_mul] at a2
  exact ⟨a1, a2⟩
theorem Bd.int {x : UInt64} {i A : Int} (f : Fin64 x) (z : dz x = i * U) (h1 : -A ≤ i) (h2 : i ≤ A) : Bd x A := by
  have hU := U_pos
  have a1 : i * U ≤ A * U := Int.mul_le_mul_of_nonneg_right h2 (Int.le_of_lt hU)
  have a2 : (-A) * U ≤ i * U := Int.mul_le_mul_of_nonneg_right h1 (Int.le_of_lt hU)
  rw [Int.neg_mul] at a2
  exact ⟨f, by omega, by omega⟩
theorem Bd.add {a b v : UInt64} {A B : Int} (e : FP.dadd a b = v) (ha : Bd a A) (hb : Bd b B) (h : (A + B).natAbs < 2 ^ 53) : Bd v (A + B) := by
  obtain ⟨fa, a1, a2⟩ := ha
  obtain ⟨fb, b1, b2⟩ := hb
  have h1 := add_le e fa fb (A + B) 0 h (by decide) (by rw [Int.pow_zero, Int.mul_one, Int.add_mul]; omega)
  have h2 := add_ge e fa fb (-(A + B)) 0 (by omega) (by decide) (by rw [Int.pow_zero, Int.mul_one, Int.neg_mul, Int.add_mul]; omega)
  rw [Int.pow_zero, Int.mul_one] at h1 h2
  rw [Int.neg_mul] at h2
  have := big_U h
  exact ⟨fin_bd (e ▸ dadd_out fa.noNaN fb) (by omega) (by omega), h2, h1⟩
theorem Bd.sub {a b v : UInt64} {A B : Int} (e : FP.dsub a b = v) (ha : Bd a A) (hb : Bd b B) (h : (A + B).natAbs < 2 ^ 53) : Bd v (A + B) := by
  obtain ⟨fa, a1, a2⟩ := ha
  obtain ⟨fb, b1, b2⟩ := hb
  have h1 := sub_le e fa fb (A + B) 0 h (by decide) (by rw [Int.pow_zero, Int.mul_one, Int.add_mul]; omega)
  have h2 := sub_ge e fa fb (-(A + B)) 0 (by omega) (by decide) (by rw [Int.pow_zero, Int.mul_one, Int.neg_mul, Int.add_mul]; omega)
  rw [Int.pow_zero, Int.mul_one] at h1 h2
  rw [Int.neg_mul] at h2
  have := big_U h
  exact ⟨fin_bd (e ▸ dsub_out fa.noNaN fb) (by omega) (by omega), h2, h1⟩
theorem Bd.mono {x : UInt64} {A B : Int} (h : Bd x A) (q : A ≤ B) : Bd x B := by
  have a1 : A * U ≤ B * U := Int.mul_le_mul_of_nonneg_right q (Int.le_of_lt U_pos)
  exact ⟨h.1, by have := h.2.1; omega, by have := h.2.2; omega⟩
theorem Bd.i2d {x : Int32} {v : UInt64} (e : FP.i2d x = v) : Bd v 2147483648 := by
  obtain ⟨f, z⟩ := i2d_v e
  have h1 := Int32.le_toInt x
  have h2 := Int32.toInt_lt x
  exact Bd.int f z (by omega) (by omega)
end Jvm.Own
namespace Jvm.Own
open Jvm.FP Jvm.FP.Core Jvm.Free.Fl
theorem mul_le' {a b v : UInt64} (e : FP.dmul a b = v) (fa : Fin64 a) (fb : Fin64 b) (k : Int) (hk : k.natAbs < 2 ^ 53) (h : dz a * dz b ≤ k * U * U) : dz v ≤ k * U := by
  obtain ⟨V, fV, hV⟩ := repU k 0 hk (by decide)
  rw [Int.pow_zero, Int.mul_one] at hV
  rw [← hV, ← e]
  exact dmul_le fa fb fV.noNaN (by rw [hV]; exact h)
theorem mul_ge' {a b v : UInt64} (e : FP.dmul a b = v) (fa : Fin64 a) (fb : Fin64 b) (k : Int) (hk : k.natAbs < 2 ^ 53) (h : k * U * U ≤ dz a * dz b) : k * U ≤ dz v := by
  obtain ⟨V, fV, hV⟩ := repU k 0 hk (by decide)
  rw [Int.pow_zero, Int.mul_one] at hV
  rw [← hV, ← e]
  exact dmul_ge fa fb fV.noNaN (by rw [hV]; exact h)
theorem abs_mul_le {x y A B : Int} (h1 : -A ≤ x) (h2 : x ≤ A) (h3 : -B ≤ y) (h4 : y ≤ B) : -(A * B) ≤ x * y ∧ x * y ≤ A * B := by
  have e : (x * y).natAbs = x.natAbs * y.natAbs := Int.natAbs_mul x y
  have e2 : x.natAbs * y.natAbs ≤ A.natAbs * B.natAbs := Nat.mul_le_mul (by omega) (by omega)
  have e3 : (A * B).natAbs = A.natAbs * B.natAbs := Int.natAbs_mul A B
  have e4 : 0 ≤ A * B := Int.mul_nonneg (by omega) (by omega)
  omega
theorem Bd.mul {a b v : UInt64} {A B : Int} (e : FP.dmul a b = v) (ha : Bd a A) (hb : Bd b B) (h : (A * B).natAbs < 2 ^ 53) : Bd v (A * B) := by
  obtain ⟨fa, a1, a2⟩ := ha
  obtain ⟨fb, b1, b2⟩ := hb
  obtain ⟨q1, q2⟩ := abs_mul_le a1 a2 b1 b2
  have r1 : A * U * (B * U) = A * B * U * U := by generalize U = u; ac_rfl
  rw [r1] at q1 q2
  have h1 := mul_le' e fa fb (A * B) h q2
  have h2 := mul_ge' e fa fb (-(A * B)) (by omega) (by rw [Int.neg_mul, Int.neg_mul]; exact q1)
  rw [Int.neg_mul] at h2
  have := big_U h
  exact ⟨fin_bd (e ▸ dmul_out fa fb) (by omega) (by omega), h2, h1⟩
end Jvm.Own

namespace Jvm.Pilot.@@N@@
open Jvm Jvm.ClassFile Sem Op Lib Jvm.Free Jvm.Stand Jvm.LawKit Jvm.RoadKit Bundle Jvm.Free.Fl Jvm.Pilot.@@N@@.Jvm.D
theorem pn_com_example_allocus_allocus_method_Population : plainName "com/example/allocus/allocus/method/Population" = true := by first | (simp [plainName, overriddenIn]; done) | decide +kernel
abbrev mn_0 : MethodName := (⟨"com/example/allocus/allocus/method/Population", "<init>", "(II)V"⟩ : MethodName)
abbrev mn_1 : MethodName := (⟨"com/example/allocus/allocus/method/Population", "put", "(I[ID)V"⟩ : MethodName)
theorem pd_2 : parseMethodDescriptor "(I[ID)V" = some ⟨[.int, (.array .int), .double], none⟩ := by decide +kernel
abbrev mn_3 : MethodName := (⟨"com/example/allocus/allocus/method/Population", "add", "([ID)V"⟩ : MethodName)
abbrev mn_4 : MethodName := (⟨"com/example/allocus/allocus/method/Population", "best", "()[I"⟩ : MethodName)
theorem pn_jdk_internal_util_ArraysSupport : plainName "jdk/internal/util/ArraysSupport" = true := by first | (simp [plainName, overriddenIn]; done) | decide +kernel
abbrev mn_5 : MethodName := (⟨"jdk/internal/util/ArraysSupport", "mismatch", "([I[II)I"⟩ : MethodName)
theorem pd_6 : parseMethodDescriptor "([I[II)I" = some ⟨[(.array .int), (.array .int), .int], some .int⟩ := by decide +kernel
theorem pn_java_util_Arrays : plainName "java/util/Arrays" = true := by first | (simp [plainName, overriddenIn]; done) | decide +kernel
abbrev mn_7 : MethodName := (⟨"java/util/Arrays", "equals", "([I[I)Z"⟩ : MethodName)
theorem pd_8 : parseMethodDescriptor "([I[I)Z" = some ⟨[(.array .int), (.array .int)], some .boolean⟩ := by decide +kernel
abbrev mn_9 : MethodName := (⟨"com/example/allocus/allocus/method/Population", "isMember", "([ID)Z"⟩ : MethodName)
theorem pd_10 : parseMethodDescriptor "([ID)Z" = some ⟨[(.array .int), .double], some .boolean⟩ := by decide +kernel
abbrev mn_11 : MethodName := (⟨"com/example/allocus/allocus/method/Population", "offer", "([ID)Z"⟩ : MethodName)
theorem pd_12 : parseMethodDescriptor "(II)V" = some ⟨[.int, .int], none⟩ := by decide +kernel
theorem pd_13 : parseMethodDescriptor "([ID)V" = some ⟨[(.array .int), .double], none⟩ := by decide +kernel
theorem pn_com_example_allocus_allocus_method_PopulationBestPinLaw : plainName "com/example/allocus/allocus/method/PopulationBestPinLaw" = true := by first | (simp [plainName, overriddenIn]; done) | decide +kernel
theorem pd_14 : parseMethodDescriptor "()[I" = some ⟨[], some (.array .int)⟩ := by decide +kernel
theorem d1_0 : decode prog_48_method_1_code 0 = .ok (.aload_n 0, 1) := by decide +kernel
theorem d1_1 : decode prog_48_method_1_code 1 = .ok (.invokespecial 1, 3) := by decide +kernel
theorem d1_4 : decode prog_48_method_1_code 4 = .ok (.aload_n 0, 1) := by decide +kernel
theorem d1_5 : decode prog_48_method_1_code 5 = .ok (.iload_n 1, 1) := by decide +kernel
theorem d1_6 : decode prog_48_method_1_code 6 = .ok (.iload_n 2, 1) := by decide +kernel
theorem d1_7 : decode prog_48_method_1_code 7 = .ok (.multianewarray 7 2, 4) := by decide +kernel
theorem d1_11 : decode prog_48_method_1_code 11 = .ok (.putfield 9, 3) := by decide +kernel
theorem d1_14 : decode prog_48_method_1_code 14 = .ok (.aload_n 0, 1) := by decide +kernel
theorem d1_15 : decode prog_48_method_1_code 15 = .ok (.iload_n 1, 1) := by decide +kernel
theorem d1_16 : decode prog_48_method_1_code 16 = .ok (.newarray .double, 2) := by decide +kernel
theorem d1_18 : decode prog_48_method_1_code 18 = .ok (.putfield 14, 3) := by decide +kernel
theorem d1_21 : decode prog_48_method_1_code 21 = .ok (.aload_n 0, 1) := by decide +kernel
theorem d1_22 : decode prog_48_method_1_code 22 = .ok (.iload_n 1, 1) := by decide +kernel
theorem d1_23 : decode prog_48_method_1_code 23 = .ok (.newarray .long, 2) := by decide +kernel
theorem d1_25 : decode prog_48_method_1_code 25 = .ok (.putfield 18, 3) := by decide +kernel
theorem d1_28 : decode prog_48_method_1_code 28 = .ok (.return_, 1) := by decide +kernel
theorem d4_0 : decode prog_48_method_10_code 0 = .ok (.aload_n 2, 1) := by decide +kernel
theorem d4_1 : decode prog_48_method_10_code 1 = .ok (.iconst 0, 1) := by decide +kernel
theorem d4_2 : decode prog_48_method_10_code 2 = .ok (.aload_n 0, 1) := by decide +kernel
theorem d4_3 : decode prog_48_method_10_code 3 = .ok (.getfield 9, 3) := by decide +kernel
theorem d4_6 : decode prog_48_method_10_code 6 = .ok (.iload_n 1, 1) := by decide +kernel
theorem d4_7 : decode prog_48_method_10_code 7 = .ok (.aaload, 1) := by decide +kernel
theorem d4_8 : decode prog_48_method_10_code 8 = .ok (.iconst 0, 1) := by decide +kernel
theorem d4_9 : decode prog_48_method_10_code 9 = .ok (.aload_n 2, 1) := by decide +kernel
theorem d4_10 : decode prog_48_method_10_code 10 = .ok (.arraylength, 1) := by decide +kernel
theorem d4_11 : decode prog_48_method_10_code 11 = .ok (.invokestatic 46, 3) := by decide +kernel
theorem d4_14 : decode prog_48_method_10_code 14 = .ok (.aload_n 0, 1) := by decide +kernel
theorem d4_15 : decode prog_48_method_10_code 15 = .ok (.getfield 14, 3) := by decide +kernel
theorem d4_18 : decode prog_48_method_10_code 18 = .ok (.iload_n 1, 1) := by decide +kernel
theorem d4_19 : decode prog_48_method_10_code 19 = .ok (.dload_n 3, 1) := by decide +kernel
theorem d4_20 : decode prog_48_method_10_code 20 = .ok (.dastore, 1) := by decide +kernel
theorem d4_21 : decode prog_48_method_10_code 21 = .ok (.aload_n 0, 1) := by decide +kernel
theorem d4_22 : decode prog_48_method_10_code 22 = .ok (.getfield 18, 3) := by decide +kernel
theorem d4_25 : decode prog_48_method_10_code 25 = .ok (.iload_n 1, 1) := by decide +kernel
theorem d4_26 : decode prog_48_method_10_code 26 = .ok (.aload_n 0, 1) := by decide +kernel
theorem d4_27 : decode prog_48_method_10_code 27 = .ok (.getfield 52, 3) := by decide +kernel
theorem d4_30 : decode prog_48_method_10_code 30 = .ok (.lastore, 1) := by decide +kernel
theorem d4_31 : decode prog_48_method_10_code 31 = .ok (.aload_n 0, 1) := by decide +kernel
theorem d4_32 : decode prog_48_method_10_code 32 = .ok (.dup, 1) := by decide +kernel
theorem d4_33 : decode prog_48_method_10_code 33 = .ok (.getfield 52, 3) := by decide +kernel
theorem d4_36 : decode prog_48_method_10_code 36 = .ok (.lconst 1, 1) := by decide +kernel
theorem d4_37 : decode prog_48_method_10_code 37 = .ok (.ladd, 1) := by decide +kernel
theorem d4_38 : decode prog_48_method_10_code 38 = .ok (.putfield 52, 3) := by decide +kernel
theorem d4_41 : decode prog_48_method_10_code 41 = .ok (.return_, 1) := by decide +kernel
theorem d3_0 : decode prog_48_method_5_code 0 = .ok (.aload_n 0, 1) := by decide +kernel
theorem d3_1 : decode prog_48_method_5_code 1 = .ok (.getfield 22, 3) := by decide +kernel
theorem d3_4 : decode prog_48_method_5_code 4 = .ok (.istore 4, 2) := by decide +kernel
theorem d3_6 : decode prog_48_method_5_code 6 = .ok (.aload_n 0, 1) := by decide +kernel
theorem d3_7 : decode prog_48_method_5_code 7 = .ok (.dup, 1) := by decide +kernel
theorem d3_8 : decode prog_48_method_5_code 8 = .ok (.getfield 22, 3) := by decide +kernel
theorem d3_11 : decode prog_48_method_5_code 11 = .ok (.iconst 1, 1) := by decide +kernel
theorem d3_12 : decode prog_48_method_5_code 12 = .ok (.iadd, 1) := by decide +kernel
theorem d3_13 : decode prog_48_method_5_code 13 = .ok (.putfield 22, 3) := by decide +kernel
theorem d3_16 : decode prog_48_method_5_code 16 = .ok (.aload_n 0, 1) := by decide +kernel
theorem d3_17 : decode prog_48_method_5_code 17 = .ok (.iload 4, 2) := by decide +kernel
theorem d3_19 : decode prog_48_method_5_code 19 = .ok (.aload_n 1, 1) := by decide +kernel
theorem d3_20 : decode prog_48_method_5_code 20 = .ok (.dload_n 2, 1) := by decide +kernel
theorem d3_21 : decode prog_48_method_5_code 21 = .ok (.invokevirtual 26, 3) := by decide +kernel
theorem d3_24 : decode prog_48_method_5_code 24 = .ok (.iload 4, 2) := by decide +kernel
theorem d3_26 : decode prog_48_method_5_code 26 = .ok (.ifCond .eq 17, 3) := by decide +kernel
theorem d3_43 : decode prog_48_method_5_code 43 = .ok (.aload_n 0, 1) := by decide +kernel
theorem d3_44 : decode prog_48_method_5_code 44 = .ok (.iload 4, 2) := by decide +kernel
theorem d3_46 : decode prog_48_method_5_code 46 = .ok (.putfield 30, 3) := by decide +kernel
theorem d3_49 : decode prog_48_method_5_code 49 = .ok (.iload 4, 2) := by decide +kernel
theorem d3_51 : decode prog_48_method_5_code 51 = .ok (.ifCond .eq 17, 3) := by decide +kernel
theorem d3_68 : decode prog_48_method_5_code 68 = .ok (.aload_n 0, 1) := by decide +kernel
theorem d3_69 : decode prog_48_method_5_code 69 = .ok (.iload 4, 2) := by decide +kernel
theorem d3_71 : decode prog_48_method_5_code 71 = .ok (.putfield 33, 3) := by decide +kernel
theorem d3_74 : decode prog_48_method_5_code 74 = .ok (.return_, 1) := by decide +kernel
theorem d3_29 : decode prog_48_method_5_code 29 = .ok (.dload_n 2, 1) := by decide +kernel
theorem d3_30 : decode prog_48_method_5_code 30 = .ok (.aload_n 0, 1) := by decide +kernel
theorem d3_31 : decode prog_48_method_5_code 31 = .ok (.getfield 14, 3) := by decide +kernel
theorem d3_34 : decode prog_48_method_5_code 34 = .ok (.aload_n 0, 1) := by decide +kernel
theorem d3_35 : decode prog_48_method_5_code 35 = .ok (.getfield 30, 3) := by decide +kernel
theorem d3_38 : decode prog_48_method_5_code 38 = .ok (.daload, 1) := by decide +kernel
theorem d3_39 : decode prog_48_method_5_code 39 = .ok (.dcmp .l, 1) := by decide +kernel
theorem d3_40 : decode prog_48_method_5_code 40 = .ok (.ifCond .le 9, 3) := by decide +kernel
theorem d3_54 : decode prog_48_method_5_code 54 = .ok (.dload_n 2, 1) := by decide +kernel
theorem d3_55 : decode prog_48_method_5_code 55 = .ok (.aload_n 0, 1) := by decide +kernel
theorem d3_56 : decode prog_48_method_5_code 56 = .ok (.getfield 14, 3) := by decide +kernel
theorem d3_59 : decode prog_48_method_5_code 59 = .ok (.aload_n 0, 1) := by decide +kernel
theorem d3_60 : decode prog_48_method_5_code 60 = .ok (.getfield 33, 3) := by decide +kernel
theorem d3_63 : decode prog_48_method_5_code 63 = .ok (.daload, 1) := by decide +kernel
theorem d3_64 : decode prog_48_method_5_code 64 = .ok (.dcmp .g, 1) := by decide +kernel
theorem d3_65 : decode prog_48_method_5_code 65 = .ok (.ifCond .ge 9, 3) := by decide +kernel
theorem d5_0 : decode prog_48_method_8_code 0 = .ok (.aload_n 0, 1) := by decide +kernel
theorem d5_1 : decode prog_48_method_8_code 1 = .ok (.getfield 9, 3) := by decide +kernel
theorem d5_4 : decode prog_48_method_8_code 4 = .ok (.aload_n 0, 1) := by decide +kernel
theorem d5_5 : decode prog_48_method_8_code 5 = .ok (.getfield 33, 3) := by decide +kernel
theorem d5_8 : decode prog_48_method_8_code 8 = .ok (.aaload, 1) := by decide +kernel
theorem d5_9 : decode prog_48_method_8_code 9 = .ok (.invokevirtual 40, 3) := by decide +kernel
theorem d5_12 : decode prog_48_method_8_code 12 = .ok (.checkcast 41, 3) := by decide +kernel
theorem d5_15 : decode prog_48_method_8_code 15 = .ok (.areturn, 1) := by decide +kernel
theorem d9_0 : decode jdk_48_method_19_code 0 = .ok (.iconst 0, 1) := by decide +kernel
theorem d9_1 : decode jdk_48_method_19_code 1 = .ok (.istore_n 3, 1) := by decide +kernel
theorem d9_2 : decode jdk_48_method_19_code 2 = .ok (.iload_n 2, 1) := by decide +kernel
theorem d9_3 : decode jdk_48_method_19_code 3 = .ok (.iconst 1, 1) := by decide +kernel
theorem d9_4 : decode jdk_48_method_19_code 4 = .ok (.if_icmp .le 44, 3) := by decide +kernel
theorem d9_48 : decode jdk_48_method_19_code 48 = .ok (.iload_n 3, 1) := by decide +kernel
theorem d9_49 : decode jdk_48_method_19_code 49 = .ok (.iload_n 2, 1) := by decide +kernel
theorem d9_50 : decode jdk_48_method_19_code 50 = .ok (.if_icmp .ge 20, 3) := by decide +kernel
theorem d9_53 : decode jdk_48_method_19_code 53 = .ok (.aload_n 0, 1) := by decide +kernel
theorem d9_54 : decode jdk_48_method_19_code 54 = .ok (.iload_n 3, 1) := by decide +kernel
theorem d9_55 : decode jdk_48_method_19_code 55 = .ok (.iaload, 1) := by decide +kernel
theorem d9_56 : decode jdk_48_method_19_code 56 = .ok (.aload_n 1, 1) := by decide +kernel
theorem d9_57 : decode jdk_48_method_19_code 57 = .ok (.iload_n 3, 1) := by decide +kernel
theorem d9_58 : decode jdk_48_method_19_code 58 = .ok (.iaload, 1) := by decide +kernel
theorem d9_59 : decode jdk_48_method_19_code 59 = .ok (.if_icmp .eq 5, 3) := by decide +kernel
theorem d9_62 : decode jdk_48_method_19_code 62 = .ok (.iload_n 3, 1) := by decide +kernel
theorem d9_63 : decode jdk_48_method_19_code 63 = .ok (.ireturn, 1) := by decide +kernel
theorem d8_0 : decode jdk_65_method_83_code 0 = .ok (.aload_n 0, 1) := by decide +kernel
theorem d8_1 : decode jdk_65_method_83_code 1 = .ok (.aload_n 1, 1) := by decide +kernel
theorem d8_2 : decode jdk_65_method_83_code 2 = .ok (.if_acmp .ne 5, 3) := by decide +kernel
theorem d8_7 : decode jdk_65_method_83_code 7 = .ok (.aload_n 0, 1) := by decide +kernel
theorem d8_8 : decode jdk_65_method_83_code 8 = .ok (.ifnull 7, 3) := by decide +kernel
theorem d8_11 : decode jdk_65_method_83_code 11 = .ok (.aload_n 1, 1) := by decide +kernel
theorem d8_12 : decode jdk_65_method_83_code 12 = .ok (.ifnonnull 5, 3) := by decide +kernel
theorem d8_17 : decode jdk_65_method_83_code 17 = .ok (.aload_n 0, 1) := by decide +kernel
theorem d8_18 : decode jdk_65_method_83_code 18 = .ok (.arraylength, 1) := by decide +kernel
theorem d8_19 : decode jdk_65_method_83_code 19 = .ok (.istore_n 2, 1) := by decide +kernel
theorem d8_20 : decode jdk_65_method_83_code 20 = .ok (.aload_n 1, 1) := by decide +kernel
theorem d8_21 : decode jdk_65_method_83_code 21 = .ok (.arraylength, 1) := by decide +kernel
theorem d8_22 : decode jdk_65_method_83_code 22 = .ok (.iload_n 2, 1) := by decide +kernel
theorem d8_23 : decode jdk_65_method_83_code 23 = .ok (.if_icmp .eq 5, 3) := by decide +kernel
theorem d8_28 : decode jdk_65_method_83_code 28 = .ok (.aload_n 0, 1) := by decide +kernel
theorem d8_29 : decode jdk_65_method_83_code 29 = .ok (.aload_n 1, 1) := by decide +kernel
theorem d8_30 : decode jdk_65_method_83_code 30 = .ok (.iload_n 2, 1) := by decide +kernel
theorem d8_31 : decode jdk_65_method_83_code 31 = .ok (.invokestatic 254, 3) := by decide +kernel
theorem d8_34 : decode jdk_65_method_83_code 34 = .ok (.ifCond .ge 7, 3) := by decide +kernel
theorem d8_41 : decode jdk_65_method_83_code 41 = .ok (.iconst 0, 1) := by decide +kernel
theorem d8_42 : decode jdk_65_method_83_code 42 = .ok (.ireturn, 1) := by decide +kernel
theorem d7_0 : decode prog_48_method_11_code 0 = .ok (.iconst 0, 1) := by decide +kernel
theorem d7_1 : decode prog_48_method_11_code 1 = .ok (.istore 4, 2) := by decide +kernel
theorem d7_3 : decode prog_48_method_11_code 3 = .ok (.iload 4, 2) := by decide +kernel
theorem d7_5 : decode prog_48_method_11_code 5 = .ok (.aload_n 0, 1) := by decide +kernel
theorem d7_6 : decode prog_48_method_11_code 6 = .ok (.getfield 22, 3) := by decide +kernel
theorem d7_9 : decode prog_48_method_11_code 9 = .ok (.if_icmp .ge 37, 3) := by decide +kernel
theorem d7_12 : decode prog_48_method_11_code 12 = .ok (.aload_n 0, 1) := by decide +kernel
theorem d7_13 : decode prog_48_method_11_code 13 = .ok (.getfield 14, 3) := by decide +kernel
theorem d7_16 : decode prog_48_method_11_code 16 = .ok (.iload 4, 2) := by decide +kernel
theorem d7_18 : decode prog_48_method_11_code 18 = .ok (.daload, 1) := by decide +kernel
theorem d7_19 : decode prog_48_method_11_code 19 = .ok (.dload_n 2, 1) := by decide +kernel
theorem d7_20 : decode prog_48_method_11_code 20 = .ok (.dcmp .l, 1) := by decide +kernel
theorem d7_21 : decode prog_48_method_11_code 21 = .ok (.ifCond .ne 19, 3) := by decide +kernel
theorem d7_24 : decode prog_48_method_11_code 24 = .ok (.aload_n 0, 1) := by decide +kernel
theorem d7_25 : decode prog_48_method_11_code 25 = .ok (.getfield 9, 3) := by decide +kernel
theorem d7_28 : decode prog_48_method_11_code 28 = .ok (.iload 4, 2) := by decide +kernel
theorem d7_30 : decode prog_48_method_11_code 30 = .ok (.aaload, 1) := by decide +kernel
theorem d7_31 : decode prog_48_method_11_code 31 = .ok (.aload_n 1, 1) := by decide +kernel
theorem d7_32 : decode prog_48_method_11_code 32 = .ok (.invokestatic 56, 3) := by decide +kernel
theorem d7_35 : decode prog_48_method_11_code 35 = .ok (.ifCond .eq 5, 3) := by decide +kernel
theorem d7_40 : decode prog_48_method_11_code 40 = .ok (.iinc 4 1, 3) := by decide +kernel
theorem d7_43 : decode prog_48_method_11_code 43 = .ok (.goto (-40), 3) := by decide +kernel
theorem d7_46 : decode prog_48_method_11_code 46 = .ok (.iconst 0, 1) := by decide +kernel
theorem d7_47 : decode prog_48_method_11_code 47 = .ok (.ireturn, 1) := by decide +kernel
theorem d6_0 : decode prog_48_method_6_code 0 = .ok (.dload_n 2, 1) := by decide +kernel
theorem d6_1 : decode prog_48_method_6_code 1 = .ok (.aload_n 0, 1) := by decide +kernel
theorem d6_2 : decode prog_48_method_6_code 2 = .ok (.getfield 14, 3) := by decide +kernel
theorem d6_5 : decode prog_48_method_6_code 5 = .ok (.aload_n 0, 1) := by decide +kernel
theorem d6_6 : decode prog_48_method_6_code 6 = .ok (.getfield 30, 3) := by decide +kernel
theorem d6_9 : decode prog_48_method_6_code 9 = .ok (.daload, 1) := by decide +kernel
theorem d6_10 : decode prog_48_method_6_code 10 = .ok (.dcmp .g, 1) := by decide +kernel
theorem d6_11 : decode prog_48_method_6_code 11 = .ok (.ifCond .ge 12, 3) := by decide +kernel
theorem d6_14 : decode prog_48_method_6_code 14 = .ok (.aload_n 0, 1) := by decide +kernel
theorem d6_15 : decode prog_48_method_6_code 15 = .ok (.aload_n 1, 1) := by decide +kernel
theorem d6_16 : decode prog_48_method_6_code 16 = .ok (.dload_n 2, 1) := by decide +kernel
theorem d6_17 : decode prog_48_method_6_code 17 = .ok (.invokevirtual 36, 3) := by decide +kernel
theorem d6_20 : decode prog_48_method_6_code 20 = .ok (.ifCond .eq 5, 3) := by decide +kernel
theorem d6_25 : decode prog_48_method_6_code 25 = .ok (.dload_n 2, 1) := by decide +kernel
theorem d6_26 : decode prog_48_method_6_code 26 = .ok (.aload_n 0, 1) := by decide +kernel
theorem d6_27 : decode prog_48_method_6_code 27 = .ok (.getfield 14, 3) := by decide +kernel
theorem d6_30 : decode prog_48_method_6_code 30 = .ok (.aload_n 0, 1) := by decide +kernel
theorem d6_31 : decode prog_48_method_6_code 31 = .ok (.getfield 33, 3) := by decide +kernel
theorem d6_34 : decode prog_48_method_6_code 34 = .ok (.daload, 1) := by decide +kernel
theorem d6_35 : decode prog_48_method_6_code 35 = .ok (.dcmp .g, 1) := by decide +kernel
theorem d6_36 : decode prog_48_method_6_code 36 = .ok (.ifCond .ge 7, 3) := by decide +kernel
theorem d6_39 : decode prog_48_method_6_code 39 = .ok (.iconst 1, 1) := by decide +kernel
theorem d6_40 : decode prog_48_method_6_code 40 = .ok (.goto 4, 3) := by decide +kernel
theorem d6_44 : decode prog_48_method_6_code 44 = .ok (.istore 4, 2) := by decide +kernel
theorem d6_46 : decode prog_48_method_6_code 46 = .ok (.aload_n 0, 1) := by decide +kernel
theorem d6_47 : decode prog_48_method_6_code 47 = .ok (.getfield 30, 3) := by decide +kernel
theorem d6_50 : decode prog_48_method_6_code 50 = .ok (.istore 5, 2) := by decide +kernel
theorem d6_52 : decode prog_48_method_6_code 52 = .ok (.aload_n 0, 1) := by decide +kernel
theorem d6_53 : decode prog_48_method_6_code 53 = .ok (.iload 5, 2) := by decide +kernel
theorem d6_55 : decode prog_48_method_6_code 55 = .ok (.aload_n 1, 1) := by decide +kernel
theorem d6_56 : decode prog_48_method_6_code 56 = .ok (.dload_n 2, 1) := by decide +kernel
theorem d6_57 : decode prog_48_method_6_code 57 = .ok (.invokevirtual 26, 3) := by decide +kernel
theorem d6_60 : decode prog_48_method_6_code 60 = .ok (.iload 4, 2) := by decide +kernel
theorem d6_62 : decode prog_48_method_6_code 62 = .ok (.ifCond .eq 9, 3) := by decide +kernel
theorem d6_65 : decode prog_48_method_6_code 65 = .ok (.aload_n 0, 1) := by decide +kernel
theorem d6_66 : decode prog_48_method_6_code 66 = .ok (.iload 5, 2) := by decide +kernel
theorem d6_68 : decode prog_48_method_6_code 68 = .ok (.putfield 33, 3) := by decide +kernel
theorem d6_71 : decode prog_48_method_6_code 71 = .ok (.aload_n 0, 1) := by decide +kernel
theorem d6_72 : decode prog_48_method_6_code 72 = .ok (.iconst 0, 1) := by decide +kernel
theorem d6_73 : decode prog_48_method_6_code 73 = .ok (.putfield 30, 3) := by decide +kernel
theorem d6_76 : decode prog_48_method_6_code 76 = .ok (.iconst 1, 1) := by decide +kernel
theorem d6_77 : decode prog_48_method_6_code 77 = .ok (.istore 6, 2) := by decide +kernel
theorem d6_79 : decode prog_48_method_6_code 79 = .ok (.iload 6, 2) := by decide +kernel
theorem d6_81 : decode prog_48_method_6_code 81 = .ok (.aload_n 0, 1) := by decide +kernel
theorem d6_82 : decode prog_48_method_6_code 82 = .ok (.getfield 22, 3) := by decide +kernel
theorem d6_85 : decode prog_48_method_6_code 85 = .ok (.if_icmp .ge 75, 3) := by decide +kernel
theorem d6_88 : decode prog_48_method_6_code 88 = .ok (.aload_n 0, 1) := by decide +kernel
theorem d6_89 : decode prog_48_method_6_code 89 = .ok (.getfield 14, 3) := by decide +kernel
theorem d6_92 : decode prog_48_method_6_code 92 = .ok (.iload 6, 2) := by decide +kernel
theorem d6_94 : decode prog_48_method_6_code 94 = .ok (.daload, 1) := by decide +kernel
theorem d6_95 : decode prog_48_method_6_code 95 = .ok (.aload_n 0, 1) := by decide +kernel
theorem d6_96 : decode prog_48_method_6_code 96 = .ok (.getfield 14, 3) := by decide +kernel
theorem d6_99 : decode prog_48_method_6_code 99 = .ok (.aload_n 0, 1) := by decide +kernel
theorem d6_100 : decode prog_48_method_6_code 100 = .ok (.getfield 30, 3) := by decide +kernel
theorem d6_103 : decode prog_48_method_6_code 103 = .ok (.daload, 1) := by decide +kernel
theorem d6_104 : decode prog_48_method_6_code 104 = .ok (.dcmp .l, 1) := by decide +kernel
theorem d6_105 : decode prog_48_method_6_code 105 = .ok (.ifCond .gt 43, 3) := by decide +kernel
theorem d6_148 : decode prog_48_method_6_code 148 = .ok (.aload_n 0, 1) := by decide +kernel
theorem d6_149 : decode prog_48_method_6_code 149 = .ok (.iload 6, 2) := by decide +kernel
theorem d6_151 : decode prog_48_method_6_code 151 = .ok (.putfield 30, 3) := by decide +kernel
theorem d6_108 : decode prog_48_method_6_code 108 = .ok (.aload_n 0, 1) := by decide +kernel
theorem d6_109 : decode prog_48_method_6_code 109 = .ok (.getfield 14, 3) := by decide +kernel
theorem d6_112 : decode prog_48_method_6_code 112 = .ok (.iload 6, 2) := by decide +kernel
theorem d6_114 : decode prog_48_method_6_code 114 = .ok (.daload, 1) := by decide +kernel
theorem d6_115 : decode prog_48_method_6_code 115 = .ok (.aload_n 0, 1) := by decide +kernel
theorem d6_116 : decode prog_48_method_6_code 116 = .ok (.getfield 14, 3) := by decide +kernel
theorem d6_119 : decode prog_48_method_6_code 119 = .ok (.aload_n 0, 1) := by decide +kernel
theorem d6_120 : decode prog_48_method_6_code 120 = .ok (.getfield 30, 3) := by decide +kernel
theorem d6_123 : decode prog_48_method_6_code 123 = .ok (.daload, 1) := by decide +kernel
theorem d6_124 : decode prog_48_method_6_code 124 = .ok (.dcmp .l, 1) := by decide +kernel
theorem d6_125 : decode prog_48_method_6_code 125 = .ok (.ifCond .ne 29, 3) := by decide +kernel
theorem d6_128 : decode prog_48_method_6_code 128 = .ok (.aload_n 0, 1) := by decide +kernel
theorem d6_129 : decode prog_48_method_6_code 129 = .ok (.getfield 18, 3) := by decide +kernel
theorem d6_132 : decode prog_48_method_6_code 132 = .ok (.iload 6, 2) := by decide +kernel
theorem d6_134 : decode prog_48_method_6_code 134 = .ok (.laload, 1) := by decide +kernel
theorem d6_135 : decode prog_48_method_6_code 135 = .ok (.aload_n 0, 1) := by decide +kernel
theorem d6_136 : decode prog_48_method_6_code 136 = .ok (.getfield 18, 3) := by decide +kernel
theorem d6_139 : decode prog_48_method_6_code 139 = .ok (.aload_n 0, 1) := by decide +kernel
theorem d6_140 : decode prog_48_method_6_code 140 = .ok (.getfield 30, 3) := by decide +kernel
theorem d6_143 : decode prog_48_method_6_code 143 = .ok (.laload, 1) := by decide +kernel
theorem d6_144 : decode prog_48_method_6_code 144 = .ok (.lcmp, 1) := by decide +kernel
theorem d6_145 : decode prog_48_method_6_code 145 = .ok (.ifCond .ge 9, 3) := by decide +kernel
theorem d6_154 : decode prog_48_method_6_code 154 = .ok (.iinc 6 1, 3) := by decide +kernel
theorem d6_157 : decode prog_48_method_6_code 157 = .ok (.goto (-78), 3) := by decide +kernel
theorem d6_160 : decode prog_48_method_6_code 160 = .ok (.iload 4, 2) := by decide +kernel
theorem d6_162 : decode prog_48_method_6_code 162 = .ok (.ireturn, 1) := by decide +kernel
theorem d6_43 : decode prog_48_method_6_code 43 = .ok (.iconst 0, 1) := by decide +kernel
theorem d6_23 : decode prog_48_method_6_code 23 = .ok (.iconst 0, 1) := by decide +kernel
theorem d6_24 : decode prog_48_method_6_code 24 = .ok (.ireturn, 1) := by decide +kernel
theorem own_01 {A B C : Prop} [Decidable A] [Decidable B] [Decidable C] {z : Int32} (e : z = (if A then 1 else (if B then (if C then 0 else 1) else 0))) : z = 0 ∨ z = 1 := by
  rw [e]; by_cases a : A <;> by_cases b : B <;> by_cases c : C <;> simp [a, b, c]
theorem own_n {k n t : Int32} (e : (k &&& 3) % 3 = t) (e2 : 1 + t = n) : n = 1 ∨ n = 2 ∨ n = 3 := by
  have h1 := c_mask k 3 2 (by decide) (by decide)
  have h2 := (c_irem (k &&& 3) 3 3 (by decide)).1 (by rw [h1]; exact Int.emod_nonneg _ (by decide))
  have h3 := c_iadd 1 t
  have o1 : (1 : Int32).toInt = 1 := rfl
  have r := rng32 n
  rw [e] at h2
  rw [e2, o1] at h3
  have K : ∀ {a : Int32}, n.toInt = a.toInt → n = a := fun h => Int32.toInt_inj.mp h
  have D : n.toInt = 1 ∨ n.toInt = 2 ∨ n.toInt = 3 := by omega
  exact D.imp K (.imp K K)
theorem own_nine (v0 v1 v2 : Int32) : (v0.toInt < v1.toInt ∧ v1.toInt < v2.toInt) ∨ (v0.toInt < v1.toInt ∧ v2.toInt < v0.toInt) ∨ (v0.toInt < v1.toInt ∧ v0.toInt ≤ v2.toInt ∧ v2.toInt ≤ v1.toInt) ∨ (v1.toInt < v0.toInt ∧ v0.toInt < v2.toInt) ∨ (v1.toInt < v0.toInt ∧ v2.toInt < v1.toInt) ∨ (v1.toInt < v0.toInt ∧ v1.toInt ≤ v2.toInt ∧ v2.toInt ≤ v0.toInt) ∨ (v0.toInt = v1.toInt ∧ v0.toInt < v2.toInt) ∨ (v0.toInt = v1.toInt ∧ v2.toInt < v0.toInt) ∨ (v0.toInt = v1.toInt ∧ v2.toInt = v0.toInt) := by omega
theorem own_two (v0 v1 : Int32) : v0.toInt < v1.toInt ∨ v1.toInt < v0.toInt ∨ v0.toInt = v1.toInt := by omega
theorem own_off (d w b : Int32) : (d.toInt < w.toInt ∧ d.toInt < b.toInt) ∨ (d.toInt < w.toInt ∧ b.toInt ≤ d.toInt) ∨ w.toInt ≤ d.toInt := by omega

theorem ef_1 (m : MethodId) (x0 : Addr) (x1 : Int32) (x2 : Int32) : entryFrame m #[.ref x0, .int x1, .int x2] 3 = mkF m 0 #[.val (.ref x0), .val (.int x1), .val (.int x2)] [] := by first | (simp [entryFrame, mkF, argsToLocals, Value.category, maxLocals]; done) | rfl
set_option maxRecDepth 65536 in
set_option maxHeartbeats 40000000 in
theorem rm1 (l : Launch) (Z : State) (a0 : Array Value) (hw : ∀ d ∈ tables_1, d.before a0 Z = true) (a : Addr) (h0 : Heap) (n0 : Nat) (Z0 : n0 ≤ h0.size) (fc0 : Exa Z h0 a "com/example/allocus/allocus/method/Population") (fc1 : Fld Z h0 a "com/example/allocus/allocus/method/Population" "plans" "[[I" (.null)) (fc2 : Fld Z h0 a "com/example/allocus/allocus/method/Population" "objectives" "[D" (.null)) (fc3 : Fld Z h0 a "com/example/allocus/allocus/method/Population" "entered" "[J" (.null)) (fc4 : Fld Z h0 a "com/example/allocus/allocus/method/Population" "count" "I" (.int (0 : Int32))) (fc5 : Fld Z h0 a "com/example/allocus/allocus/method/Population" "entries" "J" (.long (0 : Int64))) (fc6 : Fld Z h0 a "com/example/allocus/allocus/method/Population" "worst" "I" (.int (0 : Int32))) (fc7 : Fld Z h0 a "com/example/allocus/allocus/method/Population" "best" "I" (.int (0 : Int32))) (fq0 : n0 ≤ a)  :
    Own.Con l Z mn_0 [] prog_48_method_1_code 3 none ({ frames := 1, cells := 6, slots := 12, locals := 12 } : Room) #[.ref a, .int (3 : Int32), .int (1 : Int32)] h0 n0 (fun v h => ∃ (pl : Addr) (x0 : Addr) (x1 : Addr) (x2 : Addr) (oa : Addr) (na : Addr) (k_pl : ClassId) (c_pl : ClassId) (k_oa : ClassId) (k_na : ClassId), v = none ∧ Keep h0 h [a] ∧ h0.size ≤ pl ∧ h0.size ≤ x0 ∧ h0.size ≤ x1 ∧ h0.size ≤ x2 ∧ h0.size ≤ oa ∧ h0.size ≤ na ∧ pl ≠ x0 ∧ pl ≠ x1 ∧ pl ≠ x2 ∧ pl ≠ oa ∧ pl ≠ na ∧ x0 ≠ x1 ∧ x0 ≠ x2 ∧ x0 ≠ oa ∧ x0 ≠ na ∧ x1 ≠ x2 ∧ x1 ≠ oa ∧ x1 ≠ na ∧ x2 ≠ oa ∧ x2 ≠ na ∧ oa ≠ na ∧ Fld Z h a "com/example/allocus/allocus/method/Population" "plans" "[[I" (.ref pl) ∧ Fld Z h a "com/example/allocus/allocus/method/Population" "objectives" "[D" (.ref oa) ∧ Fld Z h a "com/example/allocus/allocus/method/Population" "entered" "[J" (.ref na) ∧ Fld Z h a "com/example/allocus/allocus/method/Population" "count" "I" (.int (0 : Int32)) ∧ Fld Z h a "com/example/allocus/allocus/method/Population" "entries" "J" (.long (0 : Int64)) ∧ Fld Z h a "com/example/allocus/allocus/method/Population" "worst" "I" (.int (0 : Int32)) ∧ Fld Z h a "com/example/allocus/allocus/method/Population" "best" "I" (.int (0 : Int32)) ∧ Arv Z h pl k_pl (.array .int) (3 : Int32) [.ref x0, .ref x1, .ref x2] (.null) ∧ Arv Z h x0 c_pl .int (1 : Int32) [.int (0 : Int32)] (.int (0 : Int32)) ∧ Arv Z h x1 c_pl .int (1 : Int32) [.int (0 : Int32)] (.int (0 : Int32)) ∧ Arv Z h x2 c_pl .int (1 : Int32) [.int (0 : Int32)] (.int (0 : Int32)) ∧ Arv Z h oa k_oa .double (3 : Int32) [.double 0, .double 0, .double 0] (.double 0) ∧ Arv Z h na k_na .long (3 : Int32) [.long (0 : Int64), .long (0 : Int64), .long (0 : Int64)] (.long (0 : Int64)) ∧ Exa Z h x0 "[I" ∧ Exa Z h x1 "[I" ∧ Exa Z h x2 "[I") := by
  refine Own.enter (own := "com/example/allocus/allocus/method/Population") (nm := "<init>") (plainFor_of_name pn_com_example_allocus_allocus_method_Population) rfl rfl (fun m => ef_1 m a (3 : Int32) (1 : Int32)) fun p e s m below meth c T X => ?_
  refine Own.aloadN X d1_0 rfl rfl ?_
  refine Own.initO_ X d1_1 (Own.wd hw 7 rfl) (Own.wd hw 8 rfl) (Own.wd hw 9 rfl) rfl (W := 0) (by decide) (Nat.le_of_eq rfl) (by decide) fun T1 X1 => ?_
  clear X
  refine Own.aloadN X1 d1_4 rfl rfl ?_
  refine Own.iloadN X1 d1_5 rfl ?_
  refine Own.iloadN X1 d1_6 rfl ?_
  refine Own.gridM3_ (ty := .int) (C := "[I") (ad := "[[I") X1 (cap := 1) (dv := .int (0 : Int32)) d1_7 (by decide) (by decide) (Own.wd hw 10 rfl) (Own.wd hw 11 rfl) (Own.wd hw 0 rfl) rfl (by decide) (by decide) (by decide) rfl rfl (by decide) (by decide) fun T2 h2 pl x0 x1 x2 k_pl c_pl g_pl g_x0 g_x1 g_x2 X2 E2 V2 O2 A2 V2_0 V2_1 V2_2 A2_0 A2_1 A2_2 => ?_
  have ne3 : a ≠ x0 := Nat.ne_of_lt (Nat.lt_of_lt_of_le fc0.lt (by omega))
  have ne4 : a ≠ x1 := Nat.ne_of_lt (Nat.lt_of_lt_of_le fc0.lt (by omega))
  have ne5 : a ≠ x2 := Nat.ne_of_lt (Nat.lt_of_lt_of_le fc0.lt (by omega))
  have ne6 : a ≠ pl := Nat.ne_of_lt (Nat.lt_of_lt_of_le fc0.lt (Nat.le_of_eq g_pl.symm))
  have fr7 : n0 ≤ pl := Nat.le_trans Z0 (Nat.le_of_eq g_pl.symm)
  have bn8 : h0.size ≤ pl := Nat.le_trans (Keep.refl h0 [a]).1 (Nat.le_of_eq g_pl.symm)
  have F9 := fc0.ext E2
  have F10 := fc1.ext E2
  have F11 := fc2.ext E2
  have F12 := fc3.ext E2
  have F13 := fc4.ext E2
  have F14 := fc5.ext E2
  have F15 := fc6.ext E2
  have F16 := fc7.ext E2
  have F17 := (Keep.refl h0 [a]).ext E2
  have Z18 : n0 ≤ h2.size := Nat.le_trans Z0 E2.1
  have ne19 : pl ≠ x0 := by omega
  have fr20 : n0 ≤ x0 := by omega
  have bn21 : h0.size ≤ x0 := by have := bn8; omega
  have ne22 : x0 ≠ x1 := by omega
  have ne23 : x0 ≠ x2 := by omega
  have ne24 : pl ≠ x1 := by omega
  have fr25 : n0 ≤ x1 := by omega
  have bn26 : h0.size ≤ x1 := by have := bn8; omega
  have ne27 : x1 ≠ x2 := by omega
  have ne28 : pl ≠ x2 := by omega
  have fr29 : n0 ≤ x2 := by omega
  have bn30 : h0.size ≤ x2 := by have := bn8; omega
  have V31 : Arv Z h2 x0 c_pl .int (1 : Int32) [.int (0 : Int32)] (.int (0 : Int32)) := V2_0.pad (pad_rep [] (.int (0 : Int32)) 1)
  have V32 : Arv Z h2 x1 c_pl .int (1 : Int32) [.int (0 : Int32)] (.int (0 : Int32)) := V2_1.pad (pad_rep [] (.int (0 : Int32)) 1)
  have V33 : Arv Z h2 x2 c_pl .int (1 : Int32) [.int (0 : Int32)] (.int (0 : Int32)) := V2_2.pad (pad_rep [] (.int (0 : Int32)) 1)
  clear X1 fc0 fc1 fc2 fc3 fc4 fc5 fc6 fc7
  refine Own.putF_ X2 d1_11 (host := "") (Or.inl (Own.wd hw 12 rfl)) Via.refl F10 F9 (Or.inr ⟨(Own.wd hw 13 rfl), rfl, rfl⟩) (Own.wd hw 2 rfl) (ty := (.array (.array .int))) (by decide) rfl rfl fq0 fun T34 h34 X34 W34 => ?_
  have F35 := F9.wr W34
  have F36 := F11.other W34 (Or.inr (slot_ne (Or.inr (Own.wd hw 16 rfl)) (Or.inr (Own.wd hw 13 rfl)) (by decide) (t := (.array .double)) (t' := (.array (.array .int))) (by decide) (by decide)))
  have F37 := F12.other W34 (Or.inr (slot_ne (Or.inr (Own.wd hw 19 rfl)) (Or.inr (Own.wd hw 13 rfl)) (by decide) (t := (.array .long)) (t' := (.array (.array .int))) (by decide) (by decide)))
  have F38 := F13.other W34 (Or.inr (slot_ne (Or.inl (Own.wd hw 26 rfl)) (Or.inr (Own.wd hw 13 rfl)) (by decide) (t := .int) (t' := (.array (.array .int))) (by decide) (by decide)))
  have F39 := F14.other W34 (Or.inr (slot_ne (Or.inl (Own.wd hw 36 rfl)) (Or.inr (Own.wd hw 13 rfl)) (by decide) (t := .long) (t' := (.array (.array .int))) (by decide) (by decide)))
  have F40 := F15.other W34 (Or.inr (slot_ne (Or.inl (Own.wd hw 38 rfl)) (Or.inr (Own.wd hw 13 rfl)) (by decide) (t := .int) (t' := (.array (.array .int))) (by decide) (by decide)))
  have F41 := F16.other W34 (Or.inr (slot_ne (Or.inl (Own.wd hw 40 rfl)) (Or.inr (Own.wd hw 13 rfl)) (by decide) (t := .int) (t' := (.array (.array .int))) (by decide) (by decide)))
  have F42 := F17.wr W34 (Or.inl (List.mem_of_getElem? (i := 0) rfl))
  have F43 := A2.wr W34
  have F44 := V2.other W34 (Ne.symm ne6)
  have F45 := V31.other W34 (Ne.symm ne3)
  have F46 := A2_0.wr W34
  have F47 := V32.other W34 (Ne.symm ne4)
  have F48 := A2_1.wr W34
  have F49 := V33.other W34 (Ne.symm ne5)
  have F50 := A2_2.wr W34
  have F51 : Fld Z h34 a "com/example/allocus/allocus/method/Population" "plans" "[[I" (.ref pl) := Fld.same W34 F10
  have Z52 : n0 ≤ h34.size := by rw [W34.size]; exact Z18
  clear A2 A2_0 A2_1 A2_2 F10 F11 F12 F13 F14 F15 F16 F17 F9 V2 V31 V32 V33 X2
  refine Own.aloadN X34 d1_14 rfl rfl ?_
  refine Own.iloadN X34 d1_15 rfl ?_
  refine Own.newP_ X34 (cap := 3) (ty := .double) (dv := .double 0) (ad := "[D") d1_16 rfl rfl (by decide) (Own.wd hw 14 rfl) (by decide) (by decide) (by decide) (by decide) (by decide) fun T53 h53 oa k_oa g_oa X53 E53 V53 A53 => ?_
  have ne54 : a ≠ oa := Nat.ne_of_lt (Nat.lt_of_lt_of_le F35.lt (Nat.le_of_eq g_oa.symm))
  have ne55 : pl ≠ oa := Nat.ne_of_lt (Nat.lt_of_lt_of_le F43.lt (Nat.le_of_eq g_oa.symm))
  have ne56 : x0 ≠ oa := Nat.ne_of_lt (Nat.lt_of_lt_of_le F45.lt (Nat.le_of_eq g_oa.symm))
  have ne57 : x1 ≠ oa := Nat.ne_of_lt (Nat.lt_of_lt_of_le F47.lt (Nat.le_of_eq g_oa.symm))
  have ne58 : x2 ≠ oa := Nat.ne_of_lt (Nat.lt_of_lt_of_le F49.lt (Nat.le_of_eq g_oa.symm))
  have fr59 : n0 ≤ oa := Nat.le_trans Z52 (Nat.le_of_eq g_oa.symm)
  have bn60 : h0.size ≤ oa := Nat.le_trans F42.1 (Nat.le_of_eq g_oa.symm)
  have F61 := F35.ext E53
  have F62 := F36.ext E53
  have F63 := F37.ext E53
  have F64 := F38.ext E53
  have F65 := F39.ext E53
  have F66 := F40.ext E53
  have F67 := F41.ext E53
  have F68 := F42.ext E53
  have F69 := F43.ext E53
  have F70 := F44.ext E53
  have F71 := F45.ext E53
  have F72 := F46.ext E53
  have F73 := F47.ext E53
  have F74 := F48.ext E53
  have F75 := F49.ext E53
  have F76 := F50.ext E53
  have F77 := F51.ext E53
  have Z78 : n0 ≤ h53.size := Nat.le_trans Z52 E53.1
  have V79 : Arv Z h53 oa k_oa .double (3 : Int32) [.double 0, .double 0, .double 0] (.double 0) := V53.pad (pad_rep [] (.double 0) 3)
  clear F35 F36 F37 F38 F39 F40 F41 F42 F43 F44 F45 F46 F47 F48 F49 F50 F51 X34
  refine Own.putF_ X53 d1_18 (host := "") (Or.inl (Own.wd hw 15 rfl)) Via.refl F62 F61 (Or.inr ⟨(Own.wd hw 16 rfl), rfl, rfl⟩) (Own.wd hw 2 rfl) (ty := (.array .double)) (by decide) rfl rfl fq0 fun T80 h80 X80 W80 => ?_
  have F81 := F61.wr W80
  have F82 := F63.other W80 (Or.inr (slot_ne (Or.inr (Own.wd hw 19 rfl)) (Or.inr (Own.wd hw 16 rfl)) (by decide) (t := (.array .long)) (t' := (.array .double)) (by decide) (by decide)))
  have F83 := F64.other W80 (Or.inr (slot_ne (Or.inl (Own.wd hw 26 rfl)) (Or.inr (Own.wd hw 16 rfl)) (by decide) (t := .int) (t' := (.array .double)) (by decide) (by decide)))
  have F84 := F65.other W80 (Or.inr (slot_ne (Or.inl (Own.wd hw 36 rfl)) (Or.inr (Own.wd hw 16 rfl)) (by decide) (t := .long) (t' := (.array .double)) (by decide) (by decide)))
  have F85 := F66.other W80 (Or.inr (slot_ne (Or.inl (Own.wd hw 38 rfl)) (Or.inr (Own.wd hw 16 rfl)) (by decide) (t := .int) (t' := (.array .double)) (by decide) (by decide)))
  have F86 := F67.other W80 (Or.inr (slot_ne (Or.inl (Own.wd hw 40 rfl)) (Or.inr (Own.wd hw 16 rfl)) (by decide) (t := .int) (t' := (.array .double)) (by decide) (by decide)))
  have F87 := F68.wr W80 (Or.inl (List.mem_of_getElem? (i := 0) rfl))
  have F88 := F69.wr W80
  have F89 := F70.other W80 (Ne.symm ne6)
  have F90 := F71.other W80 (Ne.symm ne3)
  have F91 := F72.wr W80
  have F92 := F73.other W80 (Ne.symm ne4)
  have F93 := F74.wr W80
  have F94 := F75.other W80 (Ne.symm ne5)
  have F95 := F76.wr W80
  have F96 := F77.other W80 (Or.inr (slot_ne (Or.inr (Own.wd hw 13 rfl)) (Or.inr (Own.wd hw 16 rfl)) (by decide) (t := (.array (.array .int))) (t' := (.array .double)) (by decide) (by decide)))
  have F97 := A53.wr W80
  have F98 := V79.other W80 (Ne.symm ne54)
  have F99 : Fld Z h80 a "com/example/allocus/allocus/method/Population" "objectives" "[D" (.ref oa) := Fld.same W80 F62
  have Z100 : n0 ≤ h80.size := by rw [W80.size]; exact Z78
  clear A53 F61 F62 F63 F64 F65 F66 F67 F68 F69 F70 F71 F72 F73 F74 F75 F76 F77 V79 X53
  refine Own.aloadN X80 d1_21 rfl rfl ?_
  refine Own.iloadN X80 d1_22 rfl ?_
  refine Own.newP_ X80 (cap := 3) (ty := .long) (dv := .long (0 : Int64)) (ad := "[J") d1_23 rfl rfl (by decide) (Own.wd hw 17 rfl) (by decide) (by decide) (by decide) (by decide) (by decide) fun T101 h101 na k_na g_na X101 E101 V101 A101 => ?_
  have ne102 : a ≠ na := Nat.ne_of_lt (Nat.lt_of_lt_of_le F81.lt (Nat.le_of_eq g_na.symm))
  have ne103 : pl ≠ na := Nat.ne_of_lt (Nat.lt_of_lt_of_le F88.lt (Nat.le_of_eq g_na.symm))
  have ne104 : x0 ≠ na := Nat.ne_of_lt (Nat.lt_of_lt_of_le F90.lt (Nat.le_of_eq g_na.symm))
  have ne105 : x1 ≠ na := Nat.ne_of_lt (Nat.lt_of_lt_of_le F92.lt (Nat.le_of_eq g_na.symm))
  have ne106 : x2 ≠ na := Nat.ne_of_lt (Nat.lt_of_lt_of_le F94.lt (Nat.le_of_eq g_na.symm))
  have ne107 : oa ≠ na := Nat.ne_of_lt (Nat.lt_of_lt_of_le F97.lt (Nat.le_of_eq g_na.symm))
  have fr108 : n0 ≤ na := Nat.le_trans Z100 (Nat.le_of_eq g_na.symm)
  have bn109 : h0.size ≤ na := Nat.le_trans F87.1 (Nat.le_of_eq g_na.symm)
  have F110 := F81.ext E101
  have F111 := F82.ext E101
  have F112 := F83.ext E101
  have F113 := F84.ext E101
  have F114 := F85.ext E101
  have F115 := F86.ext E101
  have F116 := F87.ext E101
  have F117 := F88.ext E101
  have F118 := F89.ext E101
  have F119 := F90.ext E101
  have F120 := F91.ext E101
  have F121 := F92.ext E101
  have F122 := F93.ext E101
  have F123 := F94.ext E101
  have F124 := F95.ext E101
  have F125 := F96.ext E101
  have F126 := F97.ext E101
  have F127 := F98.ext E101
  have F128 := F99.ext E101
  have Z129 : n0 ≤ h101.size := Nat.le_trans Z100 E101.1
  have V130 : Arv Z h101 na k_na .long (3 : Int32) [.long (0 : Int64), .long (0 : Int64), .long (0 : Int64)] (.long (0 : Int64)) := V101.pad (pad_rep [] (.long (0 : Int64)) 3)
  clear F81 F82 F83 F84 F85 F86 F87 F88 F89 F90 F91 F92 F93 F94 F95 F96 F97 F98 F99 X80
  refine Own.putF_ X101 d1_25 (host := "") (Or.inl (Own.wd hw 18 rfl)) Via.refl F111 F110 (Or.inr ⟨(Own.wd hw 19 rfl), rfl, rfl⟩) (Own.wd hw 2 rfl) (ty := (.array .long)) (by decide) rfl rfl fq0 fun T131 h131 X131 W131 => ?_
  have F132 := F110.wr W131
  have F133 := F112.other W131 (Or.inr (slot_ne (Or.inl (Own.wd hw 26 rfl)) (Or.inr (Own.wd hw 19 rfl)) (by decide) (t := .int) (t' := (.array .long)) (by decide) (by decide)))
  have F134 := F113.other W131 (Or.inr (slot_ne (Or.inl (Own.wd hw 36 rfl)) (Or.inr (Own.wd hw 19 rfl)) (by decide) (t := .long) (t' := (.array .long)) (by decide) (by decide)))
  have F135 := F114.other W131 (Or.inr (slot_ne (Or.inl (Own.wd hw 38 rfl)) (Or.inr (Own.wd hw 19 rfl)) (by decide) (t := .int) (t' := (.array .long)) (by decide) (by decide)))
  have F136 := F115.other W131 (Or.inr (slot_ne (Or.inl (Own.wd hw 40 rfl)) (Or.inr (Own.wd hw 19 rfl)) (by decide) (t := .int) (t' := (.array .long)) (by decide) (by decide)))
  have F137 := F116.wr W131 (Or.inl (List.mem_of_getElem? (i := 0) rfl))
  have F138 := F117.wr W131
  have F139 := F118.other W131 (Ne.symm ne6)
  have F140 := F119.other W131 (Ne.symm ne3)
  have F141 := F120.wr W131
  have F142 := F121.other W131 (Ne.symm ne4)
  have F143 := F122.wr W131
  have F144 := F123.other W131 (Ne.symm ne5)
  have F145 := F124.wr W131
  have F146 := F125.other W131 (Or.inr (slot_ne (Or.inr (Own.wd hw 13 rfl)) (Or.inr (Own.wd hw 19 rfl)) (by decide) (t := (.array (.array .int))) (t' := (.array .long)) (by decide) (by decide)))
  have F147 := F126.wr W131
  have F148 := F127.other W131 (Ne.symm ne54)
  have F149 := F128.other W131 (Or.inr (slot_ne (Or.inr (Own.wd hw 16 rfl)) (Or.inr (Own.wd hw 19 rfl)) (by decide) (t := (.array .double)) (t' := (.array .long)) (by decide) (by decide)))
  have F150 := A101.wr W131
  have F151 := V130.other W131 (Ne.symm ne102)
  have F152 : Fld Z h131 a "com/example/allocus/allocus/method/Population" "entered" "[J" (.ref na) := Fld.same W131 F111
  have Z153 : n0 ≤ h131.size := by rw [W131.size]; exact Z129
  clear A101 F110 F111 F112 F113 F114 F115 F116 F117 F118 F119 F120 F121 F122 F123 F124 F125 F126 F127 F128 V130 X101
  exact Own.retV X131 d1_28 ⟨pl, x0, x1, x2, oa, na, k_pl, c_pl, k_oa, k_na, rfl, F137, bn8, bn21, bn26, bn30, bn60, bn109, ne19, ne24, ne28, ne55, ne103, ne22, ne23, ne56, ne104, ne27, ne57, ne105, ne58, ne106, ne107, F146, F149, F152, F133, F134, F135, F136, F139, F140, F142, F144, F148, F151, F141, F143, F145⟩ (by decide) (by decide)
theorem ef_4_0 (m : MethodId) (x0 : Addr) (x1 : Int32) (x2 : Addr) (x3 : UInt64) : entryFrame m #[.ref x0, .int x1, .ref x2, .double x3] 5 = mkF m 0 #[.val (.ref x0), .val (.int x1), .val (.ref x2), .val (.double x3), .second] [] := by first | (simp [entryFrame, mkF, argsToLocals, Value.category, maxLocals]; done) | rfl
set_option maxRecDepth 65536 in
set_option maxHeartbeats 40000000 in
theorem rm4_0 (l : Launch) (Z : State) (a0 : Array Value) (hw : ∀ d ∈ tables_1, d.before a0 Z = true) (a : Addr) (si : Addr) (dv : UInt64) (pl : Addr) (oa : Addr) (na : Addr) (x0 : Addr) (x1 : Addr) (x2 : Addr) (k_pl : ClassId) (c_pl : ClassId) (k_oa : ClassId) (k_na : ClassId) (b0 : UInt64) (b1 : UInt64) (b2 : UInt64) (m0 : Int64) (m1 : Int64) (m2 : Int64) (eJ : Int64) (k_si : ClassId) (y0 : Int32) (u00 : Int32) (ct : Int32) (wo : Int32) (be : Int32) (h0 : Heap) (n0 : Nat) (Z0 : n0 ≤ h0.size) (fc0 : Exa Z h0 a "com/example/allocus/allocus/method/Population") (fc1 : Fld Z h0 a "com/example/allocus/allocus/method/Population" "plans" "[[I" (.ref pl)) (fc2 : Fld Z h0 a "com/example/allocus/allocus/method/Population" "objectives" "[D" (.ref oa)) (fc3 : Fld Z h0 a "com/example/allocus/allocus/method/Population" "entered" "[J" (.ref na)) (fc4 : Fld Z h0 a "com/example/allocus/allocus/method/Population" "count" "I" (.int ct)) (fc5 : Fld Z h0 a "com/example/allocus/allocus/method/Population" "entries" "J" (.long eJ)) (fc6 : Fld Z h0 a "com/example/allocus/allocus/method/Population" "worst" "I" (.int wo)) (fc7 : Fld Z h0 a "com/example/allocus/allocus/method/Population" "best" "I" (.int be)) (fc8 : Arv Z h0 pl k_pl (.array .int) (3 : Int32) [.ref x0, .ref x1, .ref x2] (.null)) (fc9 : Arv Z h0 x0 c_pl .int (1 : Int32) [.int u00] (.int (0 : Int32))) (fc10 : Arv Z h0 oa k_oa .double (3 : Int32) [.double b0, .double b1, .double b2] (.double 0)) (fc11 : Arv Z h0 na k_na .long (3 : Int32) [.long m0, .long m1, .long m2] (.long (0 : Int64))) (fc12 : Arv Z h0 si k_si .int (1 : Int32) [.int y0] (.int (0 : Int32))) (nq0 : a ≠ pl) (nq1 : a ≠ oa) (nq2 : a ≠ na) (nq3 : a ≠ x0) (nq4 : a ≠ x1) (nq5 : a ≠ x2) (nq6 : pl ≠ oa) (nq7 : pl ≠ na) (nq8 : pl ≠ x0) (nq9 : pl ≠ x1) (nq10 : pl ≠ x2) (nq11 : oa ≠ na) (nq12 : oa ≠ x0) (nq13 : oa ≠ x1) (nq14 : oa ≠ x2) (nq15 : na ≠ x0) (nq16 : na ≠ x1) (nq17 : na ≠ x2) (nq18 : x0 ≠ x1) (nq19 : x0 ≠ x2) (nq20 : x1 ≠ x2) (nq21 : si ≠ a) (nq22 : si ≠ pl) (nq23 : si ≠ oa) (nq24 : si ≠ na) (nq25 : si ≠ x0) (nq26 : si ≠ x1) (nq27 : si ≠ x2) (fq0 : n0 ≤ a) (fq1 : n0 ≤ x0) (fq2 : n0 ≤ x1) (fq3 : n0 ≤ x2) (fq4 : n0 ≤ oa) (fq5 : n0 ≤ na)  :
    Own.Con l Z mn_1 [] prog_48_method_10_code 5 none ({ frames := 1, cells := 0, slots := 0, locals := 32 } : Room) #[.ref a, .int (0 : Int32), .ref si, .double dv] h0 n0 (fun v h => v = none ∧ Keep h0 h [a, x0, oa, na] ∧ Fld Z h a "com/example/allocus/allocus/method/Population" "plans" "[[I" (.ref pl) ∧ Fld Z h a "com/example/allocus/allocus/method/Population" "objectives" "[D" (.ref oa) ∧ Fld Z h a "com/example/allocus/allocus/method/Population" "entered" "[J" (.ref na) ∧ Fld Z h a "com/example/allocus/allocus/method/Population" "count" "I" (.int ct) ∧ Fld Z h a "com/example/allocus/allocus/method/Population" "entries" "J" (.long (eJ + (1 : Int64))) ∧ Fld Z h a "com/example/allocus/allocus/method/Population" "worst" "I" (.int wo) ∧ Fld Z h a "com/example/allocus/allocus/method/Population" "best" "I" (.int be) ∧ Arv Z h x0 c_pl .int (1 : Int32) [.int y0] (.int (0 : Int32)) ∧ Arv Z h oa k_oa .double (3 : Int32) [.double dv, .double b1, .double b2] (.double 0) ∧ Arv Z h na k_na .long (3 : Int32) [.long eJ, .long m1, .long m2] (.long (0 : Int64))) := by
  refine Own.enter (own := "com/example/allocus/allocus/method/Population") (nm := "put") (plainFor_of_name pn_com_example_allocus_allocus_method_Population) rfl rfl (fun m => ef_4_0 m a (0 : Int32) si dv) fun p e s m below meth c T X => ?_
  refine Own.aloadN X d4_0 rfl rfl ?_
  refine Own.iconst X (v := 0) d4_1 rfl ?_
  refine Own.aloadN X d4_2 rfl rfl ?_
  refine Own.getF_ X d4_3 (host := "") (Or.inl (Own.wd hw 12 rfl)) Via.refl fc1 fun T1 X1 => ?_
  clear X
  refine Own.iloadN X1 d4_6 rfl ?_
  refine Own.aaload_ X1 d4_7 fc8 rfl (by decide) rfl ?_
  refine Own.iconst X1 (v := 0) d4_8 rfl ?_
  refine Own.aloadN X1 d4_9 rfl rfl ?_
  refine Own.alen_ X1 d4_10 fc12 ?_
  refine Own.cpA_ X1 d4_11 (Own.wd hw 31 rfl) (Own.wd hw 34 rfl) (Own.wd hw 32 rfl) (Own.wd hw 33 rfl) fc12 fc9 rfl (by decide) (by decide) (by decide) (by decide) (by decide) (us := [.int y0]) rfl (Nat.le_of_ble_eq_true rfl) fq1 rfl (by decide) (W := 0) (Nat.le_of_eq rfl) (by decide) fun T2 h2 X2 K2 V2 => ?_
  have F3 := fc0.keep K2
  have F4 := fc1.keep K2 (ninS nq3 nin0)
  have F5 := fc2.keep K2 (ninS nq3 nin0)
  have F6 := fc3.keep K2 (ninS nq3 nin0)
  have F7 := fc4.keep K2 (ninS nq3 nin0)
  have F8 := fc5.keep K2 (ninS nq3 nin0)
  have F9 := fc6.keep K2 (ninS nq3 nin0)
  have F10 := fc7.keep K2 (ninS nq3 nin0)
  have F11 := fc8.keep K2 (ninS nq8 nin0)
  have F12 := fc10.keep K2 (ninS nq12 nin0)
  have F13 := fc11.keep K2 (ninS nq15 nin0)
  have F14 := fc12.keep K2 (ninS nq25 nin0)
  have F15 := (Keep.refl h0 [a, x0, oa, na]).trans K2 (allS (Or.inl (List.mem_of_getElem? (i := 1) rfl)) all0)
  have Z16 : n0 ≤ h2.size := Nat.le_trans Z0 K2.1
  have V17 : Arv Z h2 x0 c_pl .int (1 : Int32) [.int y0] (.int (0 : Int32)) := V2
  clear X1 fc0 fc1 fc10 fc11 fc12 fc2 fc3 fc4 fc5 fc6 fc7 fc8 fc9
  refine Own.aloadN X2 d4_14 rfl rfl ?_
  refine Own.getF_ X2 d4_15 (host := "") (Or.inl (Own.wd hw 15 rfl)) Via.refl F5 fun T18 X18 => ?_
  clear X2
  refine Own.iloadN X18 d4_18 rfl ?_
  refine Own.dloadN X18 d4_19 rfl ?_
  refine Own.dastore_ X18 (i := 0) d4_20 F12 (by decide) rfl (Nat.le_of_ble_eq_true rfl) fq4 fun T19 h19 X19 W19 V19 => ?_
  have F20 := F3.wr W19
  have F21 := F4.other W19 (Or.inl nq1)
  have F22 := F5.other W19 (Or.inl nq1)
  have F23 := F6.other W19 (Or.inl nq1)
  have F24 := F7.other W19 (Or.inl nq1)
  have F25 := F8.other W19 (Or.inl nq1)
  have F26 := F9.other W19 (Or.inl nq1)
  have F27 := F10.other W19 (Or.inl nq1)
  have F28 := F11.other W19 nq6
  have F29 := F13.other W19 (Ne.symm nq11)
  have F30 := F14.other W19 nq23
  have F31 := F15.wr W19 (Or.inl (List.mem_of_getElem? (i := 2) rfl))
  have F32 := V17.other W19 (Ne.symm nq12)
  have Z33 : n0 ≤ h19.size := by rw [W19.size]; exact Z16
  have V34 : Arv Z h19 oa k_oa .double (3 : Int32) [.double dv, .double b1, .double b2] (.double 0) := V19
  clear F10 F11 F12 F13 F14 F15 F3 F4 F5 F6 F7 F8 F9 V17 X18
  refine Own.aloadN X19 d4_21 rfl rfl ?_
  refine Own.getF_ X19 d4_22 (host := "") (Or.inl (Own.wd hw 18 rfl)) Via.refl F23 fun T35 X35 => ?_
  clear X19
  refine Own.iloadN X35 d4_25 rfl ?_
  refine Own.aloadN X35 d4_26 rfl rfl ?_
  refine Own.getF_ X35 d4_27 (host := "") (Or.inl (Own.wd hw 35 rfl)) Via.refl F25 fun T36 X36 => ?_
  clear X35
  refine Own.lastore_ X36 (i := 0) d4_30 F29 (by decide) rfl (Nat.le_of_ble_eq_true rfl) fq5 fun T37 h37 X37 W37 V37 => ?_
  have F38 := F20.wr W37
  have F39 := F21.other W37 (Or.inl nq2)
  have F40 := F22.other W37 (Or.inl nq2)
  have F41 := F23.other W37 (Or.inl nq2)
  have F42 := F24.other W37 (Or.inl nq2)
  have F43 := F25.other W37 (Or.inl nq2)
  have F44 := F26.other W37 (Or.inl nq2)
  have F45 := F27.other W37 (Or.inl nq2)
  have F46 := F28.other W37 nq7
  have F47 := F30.other W37 nq24
  have F48 := F31.wr W37 (Or.inl (List.mem_of_getElem? (i := 3) rfl))
  have F49 := F32.other W37 (Ne.symm nq15)
  have F50 := V34.other W37 nq11
  have Z51 : n0 ≤ h37.size := by rw [W37.size]; exact Z33
  have V52 : Arv Z h37 na k_na .long (3 : Int32) [.long eJ, .long m1, .long m2] (.long (0 : Int64)) := V37
  clear F20 F21 F22 F23 F24 F25 F26 F27 F28 F29 F30 F31 F32 V34 X36
  refine Own.aloadN X37 d4_31 rfl rfl ?_
  refine Own.dup X37 d4_32 rfl ?_
  refine Own.getF_ X37 d4_33 (host := "") (Or.inl (Own.wd hw 35 rfl)) Via.refl F43 fun T53 X53 => ?_
  clear X37
  refine Own.lconst X53 (v := 1) d4_36 rfl ?_
  refine Own.ladd X53 d4_37 ?_
  refine Own.putF_ X53 d4_38 (host := "") (Or.inl (Own.wd hw 35 rfl)) Via.refl F43 F38 (Or.inl (Own.wd hw 36 rfl)) (Own.wd hw 2 rfl) (ty := .long) (by decide) rfl rfl fq0 fun T54 h54 X54 W54 => ?_
  have F55 := F38.wr W54
  have F56 := F39.other W54 (Or.inr (slot_ne (Or.inr (Own.wd hw 13 rfl)) (Or.inl (Own.wd hw 36 rfl)) (by decide) (t := (.array (.array .int))) (t' := .long) (by decide) (by decide)))
  have F57 := F40.other W54 (Or.inr (slot_ne (Or.inr (Own.wd hw 16 rfl)) (Or.inl (Own.wd hw 36 rfl)) (by decide) (t := (.array .double)) (t' := .long) (by decide) (by decide)))
  have F58 := F41.other W54 (Or.inr (slot_ne (Or.inr (Own.wd hw 19 rfl)) (Or.inl (Own.wd hw 36 rfl)) (by decide) (t := (.array .long)) (t' := .long) (by decide) (by decide)))
  have F59 := F42.other W54 (Or.inr (slot_ne (Or.inl (Own.wd hw 26 rfl)) (Or.inl (Own.wd hw 36 rfl)) (by decide) (t := .int) (t' := .long) (by decide) (by decide)))
  have F60 := F44.other W54 (Or.inr (slot_ne (Or.inl (Own.wd hw 38 rfl)) (Or.inl (Own.wd hw 36 rfl)) (by decide) (t := .int) (t' := .long) (by decide) (by decide)))
  have F61 := F45.other W54 (Or.inr (slot_ne (Or.inl (Own.wd hw 40 rfl)) (Or.inl (Own.wd hw 36 rfl)) (by decide) (t := .int) (t' := .long) (by decide) (by decide)))
  have F62 := F46.other W54 (Ne.symm nq0)
  have F63 := F47.other W54 nq21
  have F64 := F48.wr W54 (Or.inl (List.mem_of_getElem? (i := 0) rfl))
  have F65 := F49.other W54 (Ne.symm nq3)
  have F66 := F50.other W54 (Ne.symm nq1)
  have F67 := V52.other W54 (Ne.symm nq2)
  have F68 : Fld Z h54 a "com/example/allocus/allocus/method/Population" "entries" "J" (.long (eJ + (1 : Int64))) := Fld.same W54 F43
  have Z69 : n0 ≤ h54.size := by rw [W54.size]; exact Z51
  clear F38 F39 F40 F41 F42 F43 F44 F45 F46 F47 F48 F49 F50 V52 X53
  exact Own.retV X54 d4_41 ⟨rfl, F64, F56, F57, F58, F59, F68, F60, F61, F65, F66, F67⟩ (by decide) (by decide)
theorem ef_4_1 (m : MethodId) (x0 : Addr) (x1 : Int32) (x2 : Addr) (x3 : UInt64) : entryFrame m #[.ref x0, .int x1, .ref x2, .double x3] 5 = mkF m 0 #[.val (.ref x0), .val (.int x1), .val (.ref x2), .val (.double x3), .second] [] := by first | (simp [entryFrame, mkF, argsToLocals, Value.category, maxLocals]; done) | rfl
set_option maxRecDepth 65536 in
set_option maxHeartbeats 40000000 in
theorem rm4_1 (l : Launch) (Z : State) (a0 : Array Value) (hw : ∀ d ∈ tables_1, d.before a0 Z = true) (a : Addr) (si : Addr) (dv : UInt64) (pl : Addr) (oa : Addr) (na : Addr) (x0 : Addr) (x1 : Addr) (x2 : Addr) (k_pl : ClassId) (c_pl : ClassId) (k_oa : ClassId) (k_na : ClassId) (b0 : UInt64) (b1 : UInt64) (b2 : UInt64) (m0 : Int64) (m1 : Int64) (m2 : Int64) (eJ : Int64) (k_si : ClassId) (y0 : Int32) (u10 : Int32) (ct : Int32) (wo : Int32) (be : Int32) (h0 : Heap) (n0 : Nat) (Z0 : n0 ≤ h0.size) (fc0 : Exa Z h0 a "com/example/allocus/allocus/method/Population") (fc1 : Fld Z h0 a "com/example/allocus/allocus/method/Population" "plans" "[[I" (.ref pl)) (fc2 : Fld Z h0 a "com/example/allocus/allocus/method/Population" "objectives" "[D" (.ref oa)) (fc3 : Fld Z h0 a "com/example/allocus/allocus/method/Population" "entered" "[J" (.ref na)) (fc4 : Fld Z h0 a "com/example/allocus/allocus/method/Population" "count" "I" (.int ct)) (fc5 : Fld Z h0 a "com/example/allocus/allocus/method/Population" "entries" "J" (.long eJ)) (fc6 : Fld Z h0 a "com/example/allocus/allocus/method/Population" "worst" "I" (.int wo)) (fc7 : Fld Z h0 a "com/example/allocus/allocus/method/Population" "best" "I" (.int be)) (fc8 : Arv Z h0 pl k_pl (.array .int) (3 : Int32) [.ref x0, .ref x1, .ref x2] (.null)) (fc9 : Arv Z h0 x1 c_pl .int (1 : Int32) [.int u10] (.int (0 : Int32))) (fc10 : Arv Z h0 oa k_oa .double (3 : Int32) [.double b0, .double b1, .double b2] (.double 0)) (fc11 : Arv Z h0 na k_na .long (3 : Int32) [.long m0, .long m1, .long m2] (.long (0 : Int64))) (fc12 : Arv Z h0 si k_si .int (1 : Int32) [.int y0] (.int (0 : Int32))) (nq0 : a ≠ pl) (nq1 : a ≠ oa) (nq2 : a ≠ na) (nq3 : a ≠ x0) (nq4 : a ≠ x1) (nq5 : a ≠ x2) (nq6 : pl ≠ oa) (nq7 : pl ≠ na) (nq8 : pl ≠ x0) (nq9 : pl ≠ x1) (nq10 : pl ≠ x2) (nq11 : oa ≠ na) (nq12 : oa ≠ x0) (nq13 : oa ≠ x1) (nq14 : oa ≠ x2) (nq15 : na ≠ x0) (nq16 : na ≠ x1) (nq17 : na ≠ x2) (nq18 : x0 ≠ x1) (nq19 : x0 ≠ x2) (nq20 : x1 ≠ x2) (nq21 : si ≠ a) (nq22 : si ≠ pl) (nq23 : si ≠ oa) (nq24 : si ≠ na) (nq25 : si ≠ x0) (nq26 : si ≠ x1) (nq27 : si ≠ x2) (fq0 : n0 ≤ a) (fq1 : n0 ≤ x0) (fq2 : n0 ≤ x1) (fq3 : n0 ≤ x2) (fq4 : n0 ≤ oa) (fq5 : n0 ≤ na)  :
    Own.Con l Z mn_1 [] prog_48_method_10_code 5 none ({ frames := 1, cells := 0, slots := 0, locals := 32 } : Room) #[.ref a, .int (1 : Int32), .ref si, .double dv] h0 n0 (fun v h => v = none ∧ Keep h0 h [a, x1, oa, na] ∧ Fld Z h a "com/example/allocus/allocus/method/Population" "plans" "[[I" (.ref pl) ∧ Fld Z h a "com/example/allocus/allocus/method/Population" "objectives" "[D" (.ref oa) ∧ Fld Z h a "com/example/allocus/allocus/method/Population" "entered" "[J" (.ref na) ∧ Fld Z h a "com/example/allocus/allocus/method/Population" "count" "I" (.int ct) ∧ Fld Z h a "com/example/allocus/allocus/method/Population" "entries" "J" (.long (eJ + (1 : Int64))) ∧ Fld Z h a "com/example/allocus/allocus/method/Population" "worst" "I" (.int wo) ∧ Fld Z h a "com/example/allocus/allocus/method/Population" "best" "I" (.int be) ∧ Arv Z h x1 c_pl .int (1 : Int32) [.int y0] (.int (0 : Int32)) ∧ Arv Z h oa k_oa .double (3 : Int32) [.double b0, .double dv, .double b2] (.double 0) ∧ Arv Z h na k_na .long (3 : Int32) [.long m0, .long eJ, .long m2] (.long (0 : Int64))) := by
  refine Own.enter (own := "com/example/allocus/allocus/method/Population") (nm := "put") (plainFor_of_name pn_com_example_allocus_allocus_method_Population) rfl rfl (fun m => ef_4_1 m a (1 : Int32) si dv) fun p e s m below meth c T X => ?_
  refine Own.aloadN X d4_0 rfl rfl ?_
  refine Own.iconst X (v := 0) d4_1 rfl ?_
  refine Own.aloadN X d4_2 rfl rfl ?_
  refine Own.getF_ X d4_3 (host := "") (Or.inl (Own.wd hw 12 rfl)) Via.refl fc1 fun T1 X1 => ?_
  clear X
  refine Own.iloadN X1 d4_6 rfl ?_
  refine Own.aaload_ X1 d4_7 fc8 rfl (by decide) rfl ?_
  refine Own.iconst X1 (v := 0) d4_8 rfl ?_
  refine Own.aloadN X1 d4_9 rfl rfl ?_
  refine Own.alen_ X1 d4_10 fc12 ?_
  refine Own.cpA_ X1 d4_11 (Own.wd hw 31 rfl) (Own.wd hw 34 rfl) (Own.wd hw 32 rfl) (Own.wd hw 33 rfl) fc12 fc9 rfl (by decide) (by decide) (by decide) (by decide) (by decide) (us := [.int y0]) rfl (Nat.le_of_ble_eq_true rfl) fq2 rfl (by decide) (W := 0) (Nat.le_of_eq rfl) (by decide) fun T2 h2 X2 K2 V2 => ?_
  have F3 := fc0.keep K2
  have F4 := fc1.keep K2 (ninS nq4 nin0)
  have F5 := fc2.keep K2 (ninS nq4 nin0)
  have F6 := fc3.keep K2 (ninS nq4 nin0)
  have F7 := fc4.keep K2 (ninS nq4 nin0)
  have F8 := fc5.keep K2 (ninS nq4 nin0)
  have F9 := fc6.keep K2 (ninS nq4 nin0)
  have F10 := fc7.keep K2 (ninS nq4 nin0)
  have F11 := fc8.keep K2 (ninS nq9 nin0)
  have F12 := fc10.keep K2 (ninS nq13 nin0)
  have F13 := fc11.keep K2 (ninS nq16 nin0)
  have F14 := fc12.keep K2 (ninS nq26 nin0)
  have F15 := (Keep.refl h0 [a, x1, oa, na]).trans K2 (allS (Or.inl (List.mem_of_getElem? (i := 1) rfl)) all0)
  have Z16 : n0 ≤ h2.size := Nat.le_trans Z0 K2.1
  have V17 : Arv Z h2 x1 c_pl .int (1 : Int32) [.int y0] (.int (0 : Int32)) := V2
  clear X1 fc0 fc1 fc10 fc11 fc12 fc2 fc3 fc4 fc5 fc6 fc7 fc8 fc9
  refine Own.aloadN X2 d4_14 rfl rfl ?_
  refine Own.getF_ X2 d4_15 (host := "") (Or.inl (Own.wd hw 15 rfl)) Via.refl F5 fun T18 X18 => ?_
  clear X2
  refine Own.iloadN X18 d4_18 rfl ?_
  refine Own.dloadN X18 d4_19 rfl ?_
  refine Own.dastore_ X18 (i := 1) d4_20 F12 (by decide) rfl (Nat.le_of_ble_eq_true rfl) fq4 fun T19 h19 X19 W19 V19 => ?_
  have F20 := F3.wr W19
  have F21 := F4.other W19 (Or.inl nq1)
  have F22 := F5.other W19 (Or.inl nq1)
  have F23 := F6.other W19 (Or.inl nq1)
  have F24 := F7.other W19 (Or.inl nq1)
  have F25 := F8.other W19 (Or.inl nq1)
  have F26 := F9.other W19 (Or.inl nq1)
  have F27 := F10.other W19 (Or.inl nq1)
  have F28 := F11.other W19 nq6
  have F29 := F13.other W19 (Ne.symm nq11)
  have F30 := F14.other W19 nq23
  have F31 := F15.wr W19 (Or.inl (List.mem_of_getElem? (i := 2) rfl))
  have F32 := V17.other W19 (Ne.symm nq13)
  have Z33 : n0 ≤ h19.size := by rw [W19.size]; exact Z16
  have V34 : Arv Z h19 oa k_oa .double (3 : Int32) [.double b0, .double dv, .double b2] (.double 0) := V19
  clear F10 F11 F12 F13 F14 F15 F3 F4 F5 F6 F7 F8 F9 V17 X18
  refine Own.aloadN X19 d4_21 rfl rfl ?_
  refine Own.getF_ X19 d4_22 (host := "") (Or.inl (Own.wd hw 18 rfl)) Via.refl F23 fun T35 X35 => ?_
  clear X19
  refine Own.iloadN X35 d4_25 rfl ?_
  refine Own.aloadN X35 d4_26 rfl rfl ?_
  refine Own.getF_ X35 d4_27 (host := "") (Or.inl (Own.wd hw 35 rfl)) Via.refl F25 fun T36 X36 => ?_
  clear X35
  refine Own.lastore_ X36 (i := 1) d4_30 F29 (by decide) rfl (Nat.le_of_ble_eq_true rfl) fq5 fun T37 h37 X37 W37 V37 => ?_
  have F38 := F20.wr W37
  have F39 := F21.other W37 (Or.inl nq2)
  have F40 := F22.other W37 (Or.inl nq2)
  have F41 := F23.other W37 (Or.inl nq2)
  have F42 := F24.other W37 (Or.inl nq2)
  have F43 := F25.other W37 (Or.inl nq2)
  have F44 := F26.other W37 (Or.inl nq2)
  have F45 := F27.other W37 (Or.inl nq2)
  have F46 := F28.other W37 nq7
  have F47 := F30.other W37 nq24
  have F48 := F31.wr W37 (Or.inl (List.mem_of_getElem? (i := 3) rfl))
  have F49 := F32.other W37 (Ne.symm nq16)
  have F50 := V34.other W37 nq11
  have Z51 : n0 ≤ h37.size := by rw [W37.size]; exact Z33
  have V52 : Arv Z h37 na k_na .long (3 : Int32) [.long m0, .long eJ, .long m2] (.long (0 : Int64)) := V37
  clear F20 F21 F22 F23 F24 F25 F26 F27 F28 F29 F30 F31 F32 V34 X36
  refine Own.aloadN X37 d4_31 rfl rfl ?_
  refine Own.dup X37 d4_32 rfl ?_
  refine Own.getF_ X37 d4_33 (host := "") (Or.inl (Own.wd hw 35 rfl)) Via.refl F43 fun T53 X53 => ?_
  clear X37
  refine Own.lconst X53 (v := 1) d4_36 rfl ?_
  refine Own.ladd X53 d4_37 ?_
  refine Own.putF_ X53 d4_38 (host := "") (Or.inl (Own.wd hw 35 rfl)) Via.refl F43 F38 (Or.inl (Own.wd hw 36 rfl)) (Own.wd hw 2 rfl) (ty := .long) (by decide) rfl rfl fq0 fun T54 h54 X54 W54 => ?_
  have F55 := F38.wr W54
  have F56 := F39.other W54 (Or.inr (slot_ne (Or.inr (Own.wd hw 13 rfl)) (Or.inl (Own.wd hw 36 rfl)) (by decide) (t := (.array (.array .int))) (t' := .long) (by decide) (by decide)))
  have F57 := F40.other W54 (Or.inr (slot_ne (Or.inr (Own.wd hw 16 rfl)) (Or.inl (Own.wd hw 36 rfl)) (by decide) (t := (.array .double)) (t' := .long) (by decide) (by decide)))
  have F58 := F41.other W54 (Or.inr (slot_ne (Or.inr (Own.wd hw 19 rfl)) (Or.inl (Own.wd hw 36 rfl)) (by decide) (t := (.array .long)) (t' := .long) (by decide) (by decide)))
  have F59 := F42.other W54 (Or.inr (slot_ne (Or.inl (Own.wd hw 26 rfl)) (Or.inl (Own.wd hw 36 rfl)) (by decide) (t := .int) (t' := .long) (by decide) (by decide)))
  have F60 := F44.other W54 (Or.inr (slot_ne (Or.inl (Own.wd hw 38 rfl)) (Or.inl (Own.wd hw 36 rfl)) (by decide) (t := .int) (t' := .long) (by decide) (by decide)))
  have F61 := F45.other W54 (Or.inr (slot_ne (Or.inl (Own.wd hw 40 rfl)) (Or.inl (Own.wd hw 36 rfl)) (by decide) (t := .int) (t' := .long) (by decide) (by decide)))
  have F62 := F46.other W54 (Ne.symm nq0)
  have F63 := F47.other W54 nq21
  have F64 := F48.wr W54 (Or.inl (List.mem_of_getElem? (i := 0) rfl))
  have F65 := F49.other W54 (Ne.symm nq4)
  have F66 := F50.other W54 (Ne.symm nq1)
  have F67 := V52.other W54 (Ne.symm nq2)
  have F68 : Fld Z h54 a "com/example/allocus/allocus/method/Population" "entries" "J" (.long (eJ + (1 : Int64))) := Fld.same W54 F43
  have Z69 : n0 ≤ h54.size := by rw [W54.size]; exact Z51
  clear F38 F39 F40 F41 F42 F43 F44 F45 F46 F47 F48 F49 F50 V52 X53
  exact Own.retV X54 d4_41 ⟨rfl, F64, F56, F57, F58, F59, F68, F60, F61, F65, F66, F67⟩ (by decide) (by decide)
theorem ef_4_2 (m : MethodId) (x0 : Addr) (x1 : Int32) (x2 : Addr) (x3 : UInt64) : entryFrame m #[.ref x0, .int x1, .ref x2, .double x3] 5 = mkF m 0 #[.val (.ref x0), .val (.int x1), .val (.ref x2), .val (.double x3), .second] [] := by first | (simp [entryFrame, mkF, argsToLocals, Value.category, maxLocals]; done) | rfl
set_option maxRecDepth 65536 in
set_option maxHeartbeats 40000000 in
theorem rm4_2 (l : Launch) (Z : State) (a0 : Array Value) (hw : ∀ d ∈ tables_1, d.before a0 Z = true) (a : Addr) (si : Addr) (dv : UInt64) (pl : Addr) (oa : Addr) (na : Addr) (x0 : Addr) (x1 : Addr) (x2 : Addr) (k_pl : ClassId) (c_pl : ClassId) (k_oa : ClassId) (k_na : ClassId) (b0 : UInt64) (b1 : UInt64) (b2 : UInt64) (m0 : Int64) (m1 : Int64) (m2 : Int64) (eJ : Int64) (k_si : ClassId) (y0 : Int32) (u20 : Int32) (ct : Int32) (wo : Int32) (be : Int32) (h0 : Heap) (n0 : Nat) (Z0 : n0 ≤ h0.size) (fc0 : Exa Z h0 a "com/example/allocus/allocus/method/Population") (fc1 : Fld Z h0 a "com/example/allocus/allocus/method/Population" "plans" "[[I" (.ref pl)) (fc2 : Fld Z h0 a "com/example/allocus/allocus/method/Population" "objectives" "[D" (.ref oa)) (fc3 : Fld Z h0 a "com/example/allocus/allocus/method/Population" "entered" "[J" (.ref na)) (fc4 : Fld Z h0 a "com/example/allocus/allocus/method/Population" "count" "I" (.int ct)) (fc5 : Fld Z h0 a "com/example/allocus/allocus/method/Population" "entries" "J" (.long eJ)) (fc6 : Fld Z h0 a "com/example/allocus/allocus/method/Population" "worst" "I" (.int wo)) (fc7 : Fld Z h0 a "com/example/allocus/allocus/method/Population" "best" "I" (.int be)) (fc8 : Arv Z h0 pl k_pl (.array .int) (3 : Int32) [.ref x0, .ref x1, .ref x2] (.null)) (fc9 : Arv Z h0 x2 c_pl .int (1 : Int32) [.int u20] (.int (0 : Int32))) (fc10 : Arv Z h0 oa k_oa .double (3 : Int32) [.double b0, .double b1, .double b2] (.double 0)) (fc11 : Arv Z h0 na k_na .long (3 : Int32) [.long m0, .long m1, .long m2] (.long (0 : Int64))) (fc12 : Arv Z h0 si k_si .int (1 : Int32) [.int y0] (.int (0 : Int32))) (nq0 : a ≠ pl) (nq1 : a ≠ oa) (nq2 : a ≠ na) (nq3 : a ≠ x0) (nq4 : a ≠ x1) (nq5 : a ≠ x2) (nq6 : pl ≠ oa) (nq7 : pl ≠ na) (nq8 : pl ≠ x0) (nq9 : pl ≠ x1) (nq10 : pl ≠ x2) (nq11 : oa ≠ na) (nq12 : oa ≠ x0) (nq13 : oa ≠ x1) (nq14 : oa ≠ x2) (nq15 : na ≠ x0) (nq16 : na ≠ x1) (nq17 : na ≠ x2) (nq18 : x0 ≠ x1) (nq19 : x0 ≠ x2) (nq20 : x1 ≠ x2) (nq21 : si ≠ a) (nq22 : si ≠ pl) (nq23 : si ≠ oa) (nq24 : si ≠ na) (nq25 : si ≠ x0) (nq26 : si ≠ x1) (nq27 : si ≠ x2) (fq0 : n0 ≤ a) (fq1 : n0 ≤ x0) (fq2 : n0 ≤ x1) (fq3 : n0 ≤ x2) (fq4 : n0 ≤ oa) (fq5 : n0 ≤ na)  :
    Own.Con l Z mn_1 [] prog_48_method_10_code 5 none ({ frames := 1, cells := 0, slots := 0, locals := 32 } : Room) #[.ref a, .int (2 : Int32), .ref si, .double dv] h0 n0 (fun v h => v = none ∧ Keep h0 h [a, x2, oa, na] ∧ Fld Z h a "com/example/allocus/allocus/method/Population" "plans" "[[I" (.ref pl) ∧ Fld Z h a "com/example/allocus/allocus/method/Population" "objectives" "[D" (.ref oa) ∧ Fld Z h a "com/example/allocus/allocus/method/Population" "entered" "[J" (.ref na) ∧ Fld Z h a "com/example/allocus/allocus/method/Population" "count" "I" (.int ct) ∧ Fld Z h a "com/example/allocus/allocus/method/Population" "entries" "J" (.long (eJ + (1 : Int64))) ∧ Fld Z h a "com/example/allocus/allocus/method/Population" "worst" "I" (.int wo) ∧ Fld Z h a "com/example/allocus/allocus/method/Population" "best" "I" (.int be) ∧ Arv Z h x2 c_pl .int (1 : Int32) [.int y0] (.int (0 : Int32)) ∧ Arv Z h oa k_oa .double (3 : Int32) [.double b0, .double b1, .double dv] (.double 0) ∧ Arv Z h na k_na .long (3 : Int32) [.long m0, .long m1, .long eJ] (.long (0 : Int64))) := by
  refine Own.enter (own := "com/example/allocus/allocus/method/Population") (nm := "put") (plainFor_of_name pn_com_example_allocus_allocus_method_Population) rfl rfl (fun m => ef_4_2 m a (2 : Int32) si dv) fun p e s m below meth c T X => ?_
  refine Own.aloadN X d4_0 rfl rfl ?_
  refine Own.iconst X (v := 0) d4_1 rfl ?_
  refine Own.aloadN X d4_2 rfl rfl ?_
  refine Own.getF_ X d4_3 (host := "") (Or.inl (Own.wd hw 12 rfl)) Via.refl fc1 fun T1 X1 => ?_
  clear X
  refine Own.iloadN X1 d4_6 rfl ?_
  refine Own.aaload_ X1 d4_7 fc8 rfl (by decide) rfl ?_
  refine Own.iconst X1 (v := 0) d4_8 rfl ?_
  refine Own.aloadN X1 d4_9 rfl rfl ?_
  refine Own.alen_ X1 d4_10 fc12 ?_
  refine Own.cpA_ X1 d4_11 (Own.wd hw 31 rfl) (Own.wd hw 34 rfl) (Own.wd hw 32 rfl) (Own.wd hw 33 rfl) fc12 fc9 rfl (by decide) (by decide) (by decide) (by decide) (by decide) (us := [.int y0]) rfl (Nat.le_of_ble_eq_true rfl) fq3 rfl (by decide) (W := 0) (Nat.le_of_eq rfl) (by decide) fun T2 h2 X2 K2 V2 => ?_
  have F3 := fc0.keep K2
  have F4 := fc1.keep K2 (ninS nq5 nin0)
  have F5 := fc2.keep K2 (ninS nq5 nin0)
  have F6 := fc3.keep K2 (ninS nq5 nin0)
  have F7 := fc4.keep K2 (ninS nq5 nin0)
  have F8 := fc5.keep K2 (ninS nq5 nin0)
  have F9 := fc6.keep K2 (ninS nq5 nin0)
  have F10 := fc7.keep K2 (ninS nq5 nin0)
  have F11 := fc8.keep K2 (ninS nq10 nin0)
  have F12 := fc10.keep K2 (ninS nq14 nin0)
  have F13 := fc11.keep K2 (ninS nq17 nin0)
  have F14 := fc12.keep K2 (ninS nq27 nin0)
  have F15 := (Keep.refl h0 [a, x2, oa, na]).trans K2 (allS (Or.inl (List.mem_of_getElem? (i := 1) rfl)) all0)
  have Z16 : n0 ≤ h2.size := Nat.le_trans Z0 K2.1
  have V17 : Arv Z h2 x2 c_pl .int (1 : Int32) [.int y0] (.int (0 : Int32)) := V2
  clear X1 fc0 fc1 fc10 fc11 fc12 fc2 fc3 fc4 fc5 fc6 fc7 fc8 fc9
  refine Own.aloadN X2 d4_14 rfl rfl ?_
  refine Own.getF_ X2 d4_15 (host := "") (Or.inl (Own.wd hw 15 rfl)) Via.refl F5 fun T18 X18 => ?_
  clear X2
  refine Own.iloadN X18 d4_18 rfl ?_
  refine Own.dloadN X18 d4_19 rfl ?_
  refine Own.dastore_ X18 (i := 2) d4_20 F12 (by decide) rfl (Nat.le_of_ble_eq_true rfl) fq4 fun T19 h19 X19 W19 V19 => ?_
  have F20 := F3.wr W19
  have F21 := F4.other W19 (Or.inl nq1)
  have F22 := F5.other W19 (Or.inl nq1)
  have F23 := F6.other W19 (Or.inl nq1)
  have F24 := F7.other W19 (Or.inl nq1)
  have F25 := F8.other W19 (Or.inl nq1)
  have F26 := F9.other W19 (Or.inl nq1)
  have F27 := F10.other W19 (Or.inl nq1)
  have F28 := F11.other W19 nq6
  have F29 := F13.other W19 (Ne.symm nq11)
  have F30 := F14.other W19 nq23
  have F31 := F15.wr W19 (Or.inl (List.mem_of_getElem? (i := 2) rfl))
  have F32 := V17.other W19 (Ne.symm nq14)
  have Z33 : n0 ≤ h19.size := by rw [W19.size]; exact Z16
  have V34 : Arv Z h19 oa k_oa .double (3 : Int32) [.double b0, .double b1, .double dv] (.double 0) := V19
  clear F10 F11 F12 F13 F14 F15 F3 F4 F5 F6 F7 F8 F9 V17 X18
  refine Own.aloadN X19 d4_21 rfl rfl ?_
  refine Own.getF_ X19 d4_22 (host := "") (Or.inl (Own.wd hw 18 rfl)) Via.refl F23 fun T35 X35 => ?_
  clear X19
  refine Own.iloadN X35 d4_25 rfl ?_
  refine Own.aloadN X35 d4_26 rfl rfl ?_
  refine Own.getF_ X35 d4_27 (host := "") (Or.inl (Own.wd hw 35 rfl)) Via.refl F25 fun T36 X36 => ?_
  clear X35
  refine Own.lastore_ X36 (i := 2) d4_30 F29 (by decide) rfl (Nat.le_of_ble_eq_true rfl) fq5 fun T37 h37 X37 W37 V37 => ?_
  have F38 := F20.wr W37
  have F39 := F21.other W37 (Or.inl nq2)
  have F40 := F22.other W37 (Or.inl nq2)
  have F41 := F23.other W37 (Or.inl nq2)
  have F42 := F24.other W37 (Or.inl nq2)
  have F43 := F25.other W37 (Or.inl nq2)
  have F44 := F26.other W37 (Or.inl nq2)
  have F45 := F27.other W37 (Or.inl nq2)
  have F46 := F28.other W37 nq7
  have F47 := F30.other W37 nq24
  have F48 := F31.wr W37 (Or.inl (List.mem_of_getElem? (i := 3) rfl))
  have F49 := F32.other W37 (Ne.symm nq17)
  have F50 := V34.other W37 nq11
  have Z51 : n0 ≤ h37.size := by rw [W37.size]; exact Z33
  have V52 : Arv Z h37 na k_na .long (3 : Int32) [.long m0, .long m1, .long eJ] (.long (0 : Int64)) := V37
  clear F20 F21 F22 F23 F24 F25 F26 F27 F28 F29 F30 F31 F32 V34 X36
  refine Own.aloadN X37 d4_31 rfl rfl ?_
  refine Own.dup X37 d4_32 rfl ?_
  refine Own.getF_ X37 d4_33 (host := "") (Or.inl (Own.wd hw 35 rfl)) Via.refl F43 fun T53 X53 => ?_
  clear X37
  refine Own.lconst X53 (v := 1) d4_36 rfl ?_
  refine Own.ladd X53 d4_37 ?_
  refine Own.putF_ X53 d4_38 (host := "") (Or.inl (Own.wd hw 35 rfl)) Via.refl F43 F38 (Or.inl (Own.wd hw 36 rfl)) (Own.wd hw 2 rfl) (ty := .long) (by decide) rfl rfl fq0 fun T54 h54 X54 W54 => ?_
  have F55 := F38.wr W54
  have F56 := F39.other W54 (Or.inr (slot_ne (Or.inr (Own.wd hw 13 rfl)) (Or.inl (Own.wd hw 36 rfl)) (by decide) (t := (.array (.array .int))) (t' := .long) (by decide) (by decide)))
  have F57 := F40.other W54 (Or.inr (slot_ne (Or.inr (Own.wd hw 16 rfl)) (Or.inl (Own.wd hw 36 rfl)) (by decide) (t := (.array .double)) (t' := .long) (by decide) (by decide)))
  have F58 := F41.other W54 (Or.inr (slot_ne (Or.inr (Own.wd hw 19 rfl)) (Or.inl (Own.wd hw 36 rfl)) (by decide) (t := (.array .long)) (t' := .long) (by decide) (by decide)))
  have F59 := F42.other W54 (Or.inr (slot_ne (Or.inl (Own.wd hw 26 rfl)) (Or.inl (Own.wd hw 36 rfl)) (by decide) (t := .int) (t' := .long) (by decide) (by decide)))
  have F60 := F44.other W54 (Or.inr (slot_ne (Or.inl (Own.wd hw 38 rfl)) (Or.inl (Own.wd hw 36 rfl)) (by decide) (t := .int) (t' := .long) (by decide) (by decide)))
  have F61 := F45.other W54 (Or.inr (slot_ne (Or.inl (Own.wd hw 40 rfl)) (Or.inl (Own.wd hw 36 rfl)) (by decide) (t := .int) (t' := .long) (by decide) (by decide)))
  have F62 := F46.other W54 (Ne.symm nq0)
  have F63 := F47.other W54 nq21
  have F64 := F48.wr W54 (Or.inl (List.mem_of_getElem? (i := 0) rfl))
  have F65 := F49.other W54 (Ne.symm nq5)
  have F66 := F50.other W54 (Ne.symm nq1)
  have F67 := V52.other W54 (Ne.symm nq2)
  have F68 : Fld Z h54 a "com/example/allocus/allocus/method/Population" "entries" "J" (.long (eJ + (1 : Int64))) := Fld.same W54 F43
  have Z69 : n0 ≤ h54.size := by rw [W54.size]; exact Z51
  clear F38 F39 F40 F41 F42 F43 F44 F45 F46 F47 F48 F49 F50 V52 X53
  exact Own.retV X54 d4_41 ⟨rfl, F64, F56, F57, F58, F59, F68, F60, F61, F65, F66, F67⟩ (by decide) (by decide)
theorem ef_3_00000 (m : MethodId) (x0 : Addr) (x1 : Addr) (x2 : UInt64) : entryFrame m #[.ref x0, .ref x1, .double x2] 5 = mkF m 0 #[.val (.ref x0), .val (.ref x1), .val (.double x2), .second, .unset] [] := by first | (simp [entryFrame, mkF, argsToLocals, Value.category, maxLocals]; done) | rfl
set_option maxRecDepth 65536 in
set_option maxHeartbeats 40000000 in
theorem rm3_00000 (l : Launch) (Z : State) (a0 : Array Value) (hw : ∀ d ∈ tables_1, d.before a0 Z = true) (a : Addr) (si : Addr) (dv : UInt64) (pl : Addr) (oa : Addr) (na : Addr) (x0 : Addr) (x1 : Addr) (x2 : Addr) (k_pl : ClassId) (c_pl : ClassId) (k_oa : ClassId) (k_na : ClassId) (b0 : UInt64) (b1 : UInt64) (b2 : UInt64) (m0 : Int64) (m1 : Int64) (m2 : Int64) (eJ : Int64) (k_si : ClassId) (y0 : Int32) (u00 : Int32) (h0 : Heap) (n0 : Nat) (Z0 : n0 ≤ h0.size) (fc0 : Exa Z h0 a "com/example/allocus/allocus/method/Population") (fc1 : Fld Z h0 a "com/example/allocus/allocus/method/Population" "plans" "[[I" (.ref pl)) (fc2 : Fld Z h0 a "com/example/allocus/allocus/method/Population" "objectives" "[D" (.ref oa)) (fc3 : Fld Z h0 a "com/example/allocus/allocus/method/Population" "entered" "[J" (.ref na)) (fc4 : Fld Z h0 a "com/example/allocus/allocus/method/Population" "count" "I" (.int (0 : Int32))) (fc5 : Fld Z h0 a "com/example/allocus/allocus/method/Population" "entries" "J" (.long eJ)) (fc6 : Fld Z h0 a "com/example/allocus/allocus/method/Population" "worst" "I" (.int (0 : Int32))) (fc7 : Fld Z h0 a "com/example/allocus/allocus/method/Population" "best" "I" (.int (0 : Int32))) (fc8 : Arv Z h0 pl k_pl (.array .int) (3 : Int32) [.ref x0, .ref x1, .ref x2] (.null)) (fc9 : Arv Z h0 x0 c_pl .int (1 : Int32) [.int u00] (.int (0 : Int32))) (fc10 : Arv Z h0 oa k_oa .double (3 : Int32) [.double b0, .double b1, .double b2] (.double 0)) (fc11 : Arv Z h0 na k_na .long (3 : Int32) [.long m0, .long m1, .long m2] (.long (0 : Int64))) (fc12 : Arv Z h0 si k_si .int (1 : Int32) [.int y0] (.int (0 : Int32))) (nq0 : a ≠ pl) (nq1 : a ≠ oa) (nq2 : a ≠ na) (nq3 : a ≠ x0) (nq4 : a ≠ x1) (nq5 : a ≠ x2) (nq6 : pl ≠ oa) (nq7 : pl ≠ na) (nq8 : pl ≠ x0) (nq9 : pl ≠ x1) (nq10 : pl ≠ x2) (nq11 : oa ≠ na) (nq12 : oa ≠ x0) (nq13 : oa ≠ x1) (nq14 : oa ≠ x2) (nq15 : na ≠ x0) (nq16 : na ≠ x1) (nq17 : na ≠ x2) (nq18 : x0 ≠ x1) (nq19 : x0 ≠ x2) (nq20 : x1 ≠ x2) (nq21 : si ≠ a) (nq22 : si ≠ pl) (nq23 : si ≠ oa) (nq24 : si ≠ na) (nq25 : si ≠ x0) (nq26 : si ≠ x1) (nq27 : si ≠ x2) (fq0 : n0 ≤ a) (fq1 : n0 ≤ x0) (fq2 : n0 ≤ x1) (fq3 : n0 ≤ x2) (fq4 : n0 ≤ oa) (fq5 : n0 ≤ na) (n_dv : NoNaN64 dv)  :
    Own.Con l Z mn_3 [] prog_48_method_5_code 5 none ({ frames := 2, cells := 0, slots := 0, locals := 48 } : Room) #[.ref a, .ref si, .double dv] h0 n0 (fun v h => v = none ∧ Keep h0 h [a, x0, oa, na] ∧ Fld Z h a "com/example/allocus/allocus/method/Population" "plans" "[[I" (.ref pl) ∧ Fld Z h a "com/example/allocus/allocus/method/Population" "objectives" "[D" (.ref oa) ∧ Fld Z h a "com/example/allocus/allocus/method/Population" "entered" "[J" (.ref na) ∧ Fld Z h a "com/example/allocus/allocus/method/Population" "count" "I" (.int (1 : Int32)) ∧ Fld Z h a "com/example/allocus/allocus/method/Population" "entries" "J" (.long (eJ + (1 : Int64))) ∧ Fld Z h a "com/example/allocus/allocus/method/Population" "worst" "I" (.int (0 : Int32)) ∧ Fld Z h a "com/example/allocus/allocus/method/Population" "best" "I" (.int (0 : Int32)) ∧ Arv Z h x0 c_pl .int (1 : Int32) [.int y0] (.int (0 : Int32)) ∧ Arv Z h oa k_oa .double (3 : Int32) [.double dv, .double b1, .double b2] (.double 0) ∧ Arv Z h na k_na .long (3 : Int32) [.long eJ, .long m1, .long m2] (.long (0 : Int64))) := by
  refine Own.enter (own := "com/example/allocus/allocus/method/Population") (nm := "add") (plainFor_of_name pn_com_example_allocus_allocus_method_Population) rfl rfl (fun m => ef_3_00000 m a si dv) fun p e s m below meth c T X => ?_
  refine Own.aloadN X d3_0 rfl rfl ?_
  refine Own.getF_ X d3_1 (host := "") (Or.inl (Own.wd hw 25 rfl)) Via.refl fc4 fun T1 X1 => ?_
  clear X
  refine Own.istore X1 d3_4 (l' := #[.val (.ref a), .val (.ref si), .val (.double dv), .second, .val (.int (0 : Int32))]) rfl ?_
  refine Own.aloadN X1 d3_6 rfl rfl ?_
  refine Own.dup X1 d3_7 rfl ?_
  refine Own.getF_ X1 d3_8 (host := "") (Or.inl (Own.wd hw 25 rfl)) Via.refl fc4 fun T2 X2 => ?_
  clear X1
  refine Own.iconst X2 (v := 1) d3_11 rfl ?_
  refine Own.iadd X2 d3_12 ?_
  show Own.Go p e below s n0 _ _ _ (T2.setTop (mkF m 13 _ [.int (1 : Int32), .ref a]))
  refine Own.putF_ X2 d3_13 (host := "") (Or.inl (Own.wd hw 25 rfl)) Via.refl fc4 fc0 (Or.inl (Own.wd hw 26 rfl)) (Own.wd hw 2 rfl) (ty := .int) (by decide) rfl rfl fq0 fun T3 h3 X3 W3 => ?_
  have F4 := fc0.wr W3
  have F5 := fc1.other W3 (Or.inr (slot_ne (Or.inr (Own.wd hw 13 rfl)) (Or.inl (Own.wd hw 26 rfl)) (by decide) (t := (.array (.array .int))) (t' := .int) (by decide) (by decide)))
  have F6 := fc2.other W3 (Or.inr (slot_ne (Or.inr (Own.wd hw 16 rfl)) (Or.inl (Own.wd hw 26 rfl)) (by decide) (t := (.array .double)) (t' := .int) (by decide) (by decide)))
  have F7 := fc3.other W3 (Or.inr (slot_ne (Or.inr (Own.wd hw 19 rfl)) (Or.inl (Own.wd hw 26 rfl)) (by decide) (t := (.array .long)) (t' := .int) (by decide) (by decide)))
  have F8 := fc5.other W3 (Or.inr (slot_ne (Or.inl (Own.wd hw 36 rfl)) (Or.inl (Own.wd hw 26 rfl)) (by decide) (t := .long) (t' := .int) (by decide) (by decide)))
  have F9 := fc6.other W3 (Or.inr (slot_ne (Or.inl (Own.wd hw 38 rfl)) (Or.inl (Own.wd hw 26 rfl)) (by decide) (t := .int) (t' := .int) (by decide) (by decide)))
  have F10 := fc7.other W3 (Or.inr (slot_ne (Or.inl (Own.wd hw 40 rfl)) (Or.inl (Own.wd hw 26 rfl)) (by decide) (t := .int) (t' := .int) (by decide) (by decide)))
  have F11 := fc8.other W3 (Ne.symm nq0)
  have F12 := fc9.other W3 (Ne.symm nq3)
  have F13 := fc10.other W3 (Ne.symm nq1)
  have F14 := fc11.other W3 (Ne.symm nq2)
  have F15 := fc12.other W3 nq21
  have F16 := (Keep.refl h0 [a, x0, oa, na]).wr W3 (Or.inl (List.mem_of_getElem? (i := 0) rfl))
  have F17 : Fld Z h3 a "com/example/allocus/allocus/method/Population" "count" "I" (.int (1 : Int32)) := Fld.same W3 fc4
  have Z18 : n0 ≤ h3.size := by rw [W3.size]; exact Z0
  clear X2 fc0 fc1 fc10 fc11 fc12 fc2 fc3 fc4 fc5 fc6 fc7 fc8 fc9
  refine Own.aloadN X3 d3_16 rfl rfl ?_
  refine Own.iload X3 d3_17 rfl ?_
  refine Own.aloadN X3 d3_19 rfl rfl ?_
  refine Own.dloadN X3 d3_20 rfl ?_
  refine Own.callP_ (y := mn_1) (D := "com/example/allocus/allocus/method/Population") (z' := mn_3) (z := mn_3) (a := a) X3 d3_21 (Own.wd hw 27 rfl) (Own.wd hw 28 rfl) (Own.wd hw 23 rfl) rfl (Own.wd hw 29 rfl) (Own.wd hw 3 rfl) (Own.wd hw 30 rfl) (by decide) F4 (rm4_0 l Z a0 hw a si dv pl oa na x0 x1 x2 k_pl c_pl k_oa k_na b0 b1 b2 m0 m1 m2 eJ k_si y0 u00 (1 : Int32) (0 : Int32) (0 : Int32) h3 n0 Z18 F4 F5 F6 F7 F17 F8 F9 F10 F11 F12 F13 F14 F15 nq0 nq1 nq2 nq3 nq4 nq5 nq6 nq7 nq8 nq9 nq10 nq11 nq12 nq13 nq14 nq15 nq16 nq17 nq18 nq19 nq20 nq21 nq22 nq23 nq24 nq25 nq26 nq27 fq0 fq1 fq2 fq3 fq4 fq5 ) (lenOf pd_2 rfl) rfl (argsL := [.int (0 : Int32), .ref si, .double dv]) (rest := []) rfl (W := 0) (Nat.le_of_eq rfl) (by decide) (by decide) (by decide) (by decide) fun T19 h19 v19 X19 q19 => ?_
  obtain ⟨rfl, K19, G19_0, G19_1, G19_2, G19_3, G19_4, G19_5, G19_6, G19_7, G19_8, G19_9⟩ := q19
  have F20 := F4.keep K19
  have F21 := F11.keep K19 (ninS (Ne.symm nq0) (ninS nq8 (ninS nq6 (ninS nq7 nin0))))
  have F22 := F15.keep K19 (ninS nq21 (ninS nq25 (ninS nq23 (ninS nq24 nin0))))
  have F23 := F16.trans K19 (allS (Or.inl (List.mem_of_getElem? (i := 0) rfl)) (allS (Or.inl (List.mem_of_getElem? (i := 1) rfl)) (allS (Or.inl (List.mem_of_getElem? (i := 2) rfl)) (allS (Or.inl (List.mem_of_getElem? (i := 3) rfl)) all0))))
  have Z24 : n0 ≤ h19.size := Nat.le_trans Z18 K19.1
  show Own.Go p e below s n0 _ _ _ (T19.setTop (mkF m 24 _ []))
  clear F10 F11 F12 F13 F14 F15 F16 F17 F4 F5 F6 F7 F8 F9 X3
  refine Own.iload X19 d3_24 rfl ?_
  refine Own.iff_ X19 (pc' := 43) d3_26 (by decide) (fun _ => ?_) (fun q => absurd (show (0 : Int) = (0 : Int) from by decide) q)
  refine Own.aloadN X19 d3_43 rfl rfl ?_
  refine Own.iload X19 d3_44 rfl ?_
  refine Own.putF_ X19 d3_46 (host := "") (Or.inl (Own.wd hw 37 rfl)) Via.refl G19_5 F20 (Or.inl (Own.wd hw 38 rfl)) (Own.wd hw 2 rfl) (ty := .int) (by decide) rfl rfl fq0 fun T25 h25 X25 W25 => ?_
  have F26 := F20.wr W25
  have F27 := F21.other W25 (Ne.symm nq0)
  have F28 := F22.other W25 nq21
  have F29 := F23.wr W25 (Or.inl (List.mem_of_getElem? (i := 0) rfl))
  have F30 := G19_0.other W25 (Or.inr (slot_ne (Or.inr (Own.wd hw 13 rfl)) (Or.inl (Own.wd hw 38 rfl)) (by decide) (t := (.array (.array .int))) (t' := .int) (by decide) (by decide)))
  have F31 := G19_1.other W25 (Or.inr (slot_ne (Or.inr (Own.wd hw 16 rfl)) (Or.inl (Own.wd hw 38 rfl)) (by decide) (t := (.array .double)) (t' := .int) (by decide) (by decide)))
  have F32 := G19_2.other W25 (Or.inr (slot_ne (Or.inr (Own.wd hw 19 rfl)) (Or.inl (Own.wd hw 38 rfl)) (by decide) (t := (.array .long)) (t' := .int) (by decide) (by decide)))
  have F33 := G19_3.other W25 (Or.inr (slot_ne (Or.inl (Own.wd hw 26 rfl)) (Or.inl (Own.wd hw 38 rfl)) (by decide) (t := .int) (t' := .int) (by decide) (by decide)))
  have F34 := G19_4.other W25 (Or.inr (slot_ne (Or.inl (Own.wd hw 36 rfl)) (Or.inl (Own.wd hw 38 rfl)) (by decide) (t := .long) (t' := .int) (by decide) (by decide)))
  have F35 := G19_6.other W25 (Or.inr (slot_ne (Or.inl (Own.wd hw 40 rfl)) (Or.inl (Own.wd hw 38 rfl)) (by decide) (t := .int) (t' := .int) (by decide) (by decide)))
  have F36 := G19_7.other W25 (Ne.symm nq3)
  have F37 := G19_8.other W25 (Ne.symm nq1)
  have F38 := G19_9.other W25 (Ne.symm nq2)
  have F39 : Fld Z h25 a "com/example/allocus/allocus/method/Population" "worst" "I" (.int (0 : Int32)) := Fld.same W25 G19_5
  have Z40 : n0 ≤ h25.size := by rw [W25.size]; exact Z24
  clear F20 F21 F22 F23 G19_0 G19_1 G19_2 G19_3 G19_4 G19_5 G19_6 G19_7 G19_8 G19_9 X19
  refine Own.iload X25 d3_49 rfl ?_
  refine Own.iff_ X25 (pc' := 68) d3_51 (by decide) (fun _ => ?_) (fun q => absurd (show (0 : Int) = (0 : Int) from by decide) q)
  refine Own.aloadN X25 d3_68 rfl rfl ?_
  refine Own.iload X25 d3_69 rfl ?_
  refine Own.putF_ X25 d3_71 (host := "") (Or.inl (Own.wd hw 39 rfl)) Via.refl F35 F26 (Or.inl (Own.wd hw 40 rfl)) (Own.wd hw 2 rfl) (ty := .int) (by decide) rfl rfl fq0 fun T41 h41 X41 W41 => ?_
  have F42 := F26.wr W41
  have F43 := F27.other W41 (Ne.symm nq0)
  have F44 := F28.other W41 nq21
  have F45 := F29.wr W41 (Or.inl (List.mem_of_getElem? (i := 0) rfl))
  have F46 := F30.other W41 (Or.inr (slot_ne (Or.inr (Own.wd hw 13 rfl)) (Or.inl (Own.wd hw 40 rfl)) (by decide) (t := (.array (.array .int))) (t' := .int) (by decide) (by decide)))
  have F47 := F31.other W41 (Or.inr (slot_ne (Or.inr (Own.wd hw 16 rfl)) (Or.inl (Own.wd hw 40 rfl)) (by decide) (t := (.array .double)) (t' := .int) (by decide) (by decide)))
  have F48 := F32.other W41 (Or.inr (slot_ne (Or.inr (Own.wd hw 19 rfl)) (Or.inl (Own.wd hw 40 rfl)) (by decide) (t := (.array .long)) (t' := .int) (by decide) (by decide)))
  have F49 := F33.other W41 (Or.inr (slot_ne (Or.inl (Own.wd hw 26 rfl)) (Or.inl (Own.wd hw 40 rfl)) (by decide) (t := .int) (t' := .int) (by decide) (by decide)))
  have F50 := F34.other W41 (Or.inr (slot_ne (Or.inl (Own.wd hw 36 rfl)) (Or.inl (Own.wd hw 40 rfl)) (by decide) (t := .long) (t' := .int) (by decide) (by decide)))
  have F51 := F36.other W41 (Ne.symm nq3)
  have F52 := F37.other W41 (Ne.symm nq1)
  have F53 := F38.other W41 (Ne.symm nq2)
  have F54 := F39.other W41 (Or.inr (slot_ne (Or.inl (Own.wd hw 38 rfl)) (Or.inl (Own.wd hw 40 rfl)) (by decide) (t := .int) (t' := .int) (by decide) (by decide)))
  have F55 : Fld Z h41 a "com/example/allocus/allocus/method/Population" "best" "I" (.int (0 : Int32)) := Fld.same W41 F35
  have Z56 : n0 ≤ h41.size := by rw [W41.size]; exact Z40
  clear F26 F27 F28 F29 F30 F31 F32 F33 F34 F35 F36 F37 F38 F39 X25
  exact Own.retV X41 d3_74 ⟨rfl, F45, F46, F47, F48, F49, F50, F54, F55, F51, F52, F53⟩ (by decide) (by decide)
theorem ef_3_10010 (m : MethodId) (x0 : Addr) (x1 : Addr) (x2 : UInt64) : entryFrame m #[.ref x0, .ref x1, .double x2] 5 = mkF m 0 #[.val (.ref x0), .val (.ref x1), .val (.double x2), .second, .unset] [] := by first | (simp [entryFrame, mkF, argsToLocals, Value.category, maxLocals]; done) | rfl
set_option maxRecDepth 65536 in
set_option maxHeartbeats 40000000 in
theorem rm3_10010 (l : Launch) (Z : State) (a0 : Array Value) (hw : ∀ d ∈ tables_1, d.before a0 Z = true) (a : Addr) (si : Addr) (dv : UInt64) (pl : Addr) (oa : Addr) (na : Addr) (x0 : Addr) (x1 : Addr) (x2 : Addr) (k_pl : ClassId) (c_pl : ClassId) (k_oa : ClassId) (k_na : ClassId) (b0 : UInt64) (b1 : UInt64) (b2 : UInt64) (m0 : Int64) (m1 : Int64) (m2 : Int64) (eJ : Int64) (k_si : ClassId) (y0 : Int32) (u10 : Int32) (h0 : Heap) (n0 : Nat) (Z0 : n0 ≤ h0.size) (fc0 : Exa Z h0 a "com/example/allocus/allocus/method/Population") (fc1 : Fld Z h0 a "com/example/allocus/allocus/method/Population" "plans" "[[I" (.ref pl)) (fc2 : Fld Z h0 a "com/example/allocus/allocus/method/Population" "objectives" "[D" (.ref oa)) (fc3 : Fld Z h0 a "com/example/allocus/allocus/method/Population" "entered" "[J" (.ref na)) (fc4 : Fld Z h0 a "com/example/allocus/allocus/method/Population" "count" "I" (.int (1 : Int32))) (fc5 : Fld Z h0 a "com/example/allocus/allocus/method/Population" "entries" "J" (.long eJ)) (fc6 : Fld Z h0 a "com/example/allocus/allocus/method/Population" "worst" "I" (.int (0 : Int32))) (fc7 : Fld Z h0 a "com/example/allocus/allocus/method/Population" "best" "I" (.int (0 : Int32))) (fc8 : Arv Z h0 pl k_pl (.array .int) (3 : Int32) [.ref x0, .ref x1, .ref x2] (.null)) (fc9 : Arv Z h0 x1 c_pl .int (1 : Int32) [.int u10] (.int (0 : Int32))) (fc10 : Arv Z h0 oa k_oa .double (3 : Int32) [.double b0, .double b1, .double b2] (.double 0)) (fc11 : Arv Z h0 na k_na .long (3 : Int32) [.long m0, .long m1, .long m2] (.long (0 : Int64))) (fc12 : Arv Z h0 si k_si .int (1 : Int32) [.int y0] (.int (0 : Int32))) (nq0 : a ≠ pl) (nq1 : a ≠ oa) (nq2 : a ≠ na) (nq3 : a ≠ x0) (nq4 : a ≠ x1) (nq5 : a ≠ x2) (nq6 : pl ≠ oa) (nq7 : pl ≠ na) (nq8 : pl ≠ x0) (nq9 : pl ≠ x1) (nq10 : pl ≠ x2) (nq11 : oa ≠ na) (nq12 : oa ≠ x0) (nq13 : oa ≠ x1) (nq14 : oa ≠ x2) (nq15 : na ≠ x0) (nq16 : na ≠ x1) (nq17 : na ≠ x2) (nq18 : x0 ≠ x1) (nq19 : x0 ≠ x2) (nq20 : x1 ≠ x2) (nq21 : si ≠ a) (nq22 : si ≠ pl) (nq23 : si ≠ oa) (nq24 : si ≠ na) (nq25 : si ≠ x0) (nq26 : si ≠ x1) (nq27 : si ≠ x2) (fq0 : n0 ≤ a) (fq1 : n0 ≤ x0) (fq2 : n0 ≤ x1) (fq3 : n0 ≤ x2) (fq4 : n0 ≤ oa) (fq5 : n0 ≤ na) (n_dv : NoNaN64 dv) (n_b0 : NoNaN64 b0) (c1 : Own.dz b0 < Own.dz dv) (c2 : Own.dz b0 ≤ Own.dz dv) :
    Own.Con l Z mn_3 [] prog_48_method_5_code 5 none ({ frames := 2, cells := 0, slots := 0, locals := 48 } : Room) #[.ref a, .ref si, .double dv] h0 n0 (fun v h => v = none ∧ Keep h0 h [a, x1, oa, na] ∧ Fld Z h a "com/example/allocus/allocus/method/Population" "plans" "[[I" (.ref pl) ∧ Fld Z h a "com/example/allocus/allocus/method/Population" "objectives" "[D" (.ref oa) ∧ Fld Z h a "com/example/allocus/allocus/method/Population" "entered" "[J" (.ref na) ∧ Fld Z h a "com/example/allocus/allocus/method/Population" "count" "I" (.int (2 : Int32)) ∧ Fld Z h a "com/example/allocus/allocus/method/Population" "entries" "J" (.long (eJ + (1 : Int64))) ∧ Fld Z h a "com/example/allocus/allocus/method/Population" "worst" "I" (.int (1 : Int32)) ∧ Fld Z h a "com/example/allocus/allocus/method/Population" "best" "I" (.int (0 : Int32)) ∧ Arv Z h x1 c_pl .int (1 : Int32) [.int y0] (.int (0 : Int32)) ∧ Arv Z h oa k_oa .double (3 : Int32) [.double b0, .double dv, .double b2] (.double 0) ∧ Arv Z h na k_na .long (3 : Int32) [.long m0, .long eJ, .long m2] (.long (0 : Int64))) := by
  refine Own.enter (own := "com/example/allocus/allocus/method/Population") (nm := "add") (plainFor_of_name pn_com_example_allocus_allocus_method_Population) rfl rfl (fun m => ef_3_10010 m a si dv) fun p e s m below meth c T X => ?_
  refine Own.aloadN X d3_0 rfl rfl ?_
  refine Own.getF_ X d3_1 (host := "") (Or.inl (Own.wd hw 25 rfl)) Via.refl fc4 fun T1 X1 => ?_
  clear X
  refine Own.istore X1 d3_4 (l' := #[.val (.ref a), .val (.ref si), .val (.double dv), .second, .val (.int (1 : Int32))]) rfl ?_
  refine Own.aloadN X1 d3_6 rfl rfl ?_
  refine Own.dup X1 d3_7 rfl ?_
  refine Own.getF_ X1 d3_8 (host := "") (Or.inl (Own.wd hw 25 rfl)) Via.refl fc4 fun T2 X2 => ?_
  clear X1
  refine Own.iconst X2 (v := 1) d3_11 rfl ?_
  refine Own.iadd X2 d3_12 ?_
  show Own.Go p e below s n0 _ _ _ (T2.setTop (mkF m 13 _ [.int (2 : Int32), .ref a]))
  refine Own.putF_ X2 d3_13 (host := "") (Or.inl (Own.wd hw 25 rfl)) Via.refl fc4 fc0 (Or.inl (Own.wd hw 26 rfl)) (Own.wd hw 2 rfl) (ty := .int) (by decide) rfl rfl fq0 fun T3 h3 X3 W3 => ?_
  have F4 := fc0.wr W3
  have F5 := fc1.other W3 (Or.inr (slot_ne (Or.inr (Own.wd hw 13 rfl)) (Or.inl (Own.wd hw 26 rfl)) (by decide) (t := (.array (.array .int))) (t' := .int) (by decide) (by decide)))
  have F6 := fc2.other W3 (Or.inr (slot_ne (Or.inr (Own.wd hw 16 rfl)) (Or.inl (Own.wd hw 26 rfl)) (by decide) (t := (.array .double)) (t' := .int) (by decide) (by decide)))
  have F7 := fc3.other W3 (Or.inr (slot_ne (Or.inr (Own.wd hw 19 rfl)) (Or.inl (Own.wd hw 26 rfl)) (by decide) (t := (.array .long)) (t' := .int) (by decide) (by decide)))
  have F8 := fc5.other W3 (Or.inr (slot_ne (Or.inl (Own.wd hw 36 rfl)) (Or.inl (Own.wd hw 26 rfl)) (by decide) (t := .long) (t' := .int) (by decide) (by decide)))
  have F9 := fc6.other W3 (Or.inr (slot_ne (Or.inl (Own.wd hw 38 rfl)) (Or.inl (Own.wd hw 26 rfl)) (by decide) (t := .int) (t' := .int) (by decide) (by decide)))
  have F10 := fc7.other W3 (Or.inr (slot_ne (Or.inl (Own.wd hw 40 rfl)) (Or.inl (Own.wd hw 26 rfl)) (by decide) (t := .int) (t' := .int) (by decide) (by decide)))
  have F11 := fc8.other W3 (Ne.symm nq0)
  have F12 := fc9.other W3 (Ne.symm nq4)
  have F13 := fc10.other W3 (Ne.symm nq1)
  have F14 := fc11.other W3 (Ne.symm nq2)
  have F15 := fc12.other W3 nq21
  have F16 := (Keep.refl h0 [a, x1, oa, na]).wr W3 (Or.inl (List.mem_of_getElem? (i := 0) rfl))
  have F17 : Fld Z h3 a "com/example/allocus/allocus/method/Population" "count" "I" (.int (2 : Int32)) := Fld.same W3 fc4
  have Z18 : n0 ≤ h3.size := by rw [W3.size]; exact Z0
  clear X2 fc0 fc1 fc10 fc11 fc12 fc2 fc3 fc4 fc5 fc6 fc7 fc8 fc9
  refine Own.aloadN X3 d3_16 rfl rfl ?_
  refine Own.iload X3 d3_17 rfl ?_
  refine Own.aloadN X3 d3_19 rfl rfl ?_
  refine Own.dloadN X3 d3_20 rfl ?_
  refine Own.callP_ (y := mn_1) (D := "com/example/allocus/allocus/method/Population") (z' := mn_3) (z := mn_3) (a := a) X3 d3_21 (Own.wd hw 27 rfl) (Own.wd hw 28 rfl) (Own.wd hw 23 rfl) rfl (Own.wd hw 29 rfl) (Own.wd hw 3 rfl) (Own.wd hw 30 rfl) (by decide) F4 (rm4_1 l Z a0 hw a si dv pl oa na x0 x1 x2 k_pl c_pl k_oa k_na b0 b1 b2 m0 m1 m2 eJ k_si y0 u10 (2 : Int32) (0 : Int32) (0 : Int32) h3 n0 Z18 F4 F5 F6 F7 F17 F8 F9 F10 F11 F12 F13 F14 F15 nq0 nq1 nq2 nq3 nq4 nq5 nq6 nq7 nq8 nq9 nq10 nq11 nq12 nq13 nq14 nq15 nq16 nq17 nq18 nq19 nq20 nq21 nq22 nq23 nq24 nq25 nq26 nq27 fq0 fq1 fq2 fq3 fq4 fq5 ) (lenOf pd_2 rfl) rfl (argsL := [.int (1 : Int32), .ref si, .double dv]) (rest := []) rfl (W := 0) (Nat.le_of_eq rfl) (by decide) (by decide) (by decide) (by decide) fun T19 h19 v19 X19 q19 => ?_
  obtain ⟨rfl, K19, G19_0, G19_1, G19_2, G19_3, G19_4, G19_5, G19_6, G19_7, G19_8, G19_9⟩ := q19
  have F20 := F4.keep K19
  have F21 := F11.keep K19 (ninS (Ne.symm nq0) (ninS nq9 (ninS nq6 (ninS nq7 nin0))))
  have F22 := F15.keep K19 (ninS nq21 (ninS nq26 (ninS nq23 (ninS nq24 nin0))))
  have F23 := F16.trans K19 (allS (Or.inl (List.mem_of_getElem? (i := 0) rfl)) (allS (Or.inl (List.mem_of_getElem? (i := 1) rfl)) (allS (Or.inl (List.mem_of_getElem? (i := 2) rfl)) (allS (Or.inl (List.mem_of_getElem? (i := 3) rfl)) all0))))
  have Z24 : n0 ≤ h19.size := Nat.le_trans Z18 K19.1
  show Own.Go p e below s n0 _ _ _ (T19.setTop (mkF m 24 _ []))
  clear F10 F11 F12 F13 F14 F15 F16 F17 F4 F5 F6 F7 F8 F9 X3
  refine Own.iload X19 d3_24 rfl ?_
  refine Own.iff_ X19 (pc' := 43) d3_26 (by decide) (fun q => absurd (show (1 : Int) = (0 : Int) from q) (show ¬ ((1 : Int) = (0 : Int)) from by decide)) (fun _ => ?_)
  refine Own.dloadN X19 d3_29 rfl ?_
  refine Own.aloadN X19 d3_30 rfl rfl ?_
  refine Own.getF_ X19 d3_31 (host := "") (Or.inl (Own.wd hw 15 rfl)) Via.refl G19_1 fun T25 X25 => ?_
  clear X19
  refine Own.aloadN X25 d3_34 rfl rfl ?_
  refine Own.getF_ X25 d3_35 (host := "") (Or.inl (Own.wd hw 37 rfl)) Via.refl G19_5 fun T26 X26 => ?_
  clear X25
  refine Own.daload_ X26 d3_38 G19_8 (by decide) rfl ?_
  refine Own.dcmpF X26 (pc' := 49) d3_39 d3_40 (by decide) n_dv n_b0 (fun q => absurd (show Own.dz dv ≤ Own.dz b0 from q) (show ¬ (Own.dz dv ≤ Own.dz b0) from by omega)) (fun _ => ?_)
  refine Own.aloadN X26 d3_43 rfl rfl ?_
  refine Own.iload X26 d3_44 rfl ?_
  refine Own.putF_ X26 d3_46 (host := "") (Or.inl (Own.wd hw 37 rfl)) Via.refl G19_5 F20 (Or.inl (Own.wd hw 38 rfl)) (Own.wd hw 2 rfl) (ty := .int) (by decide) rfl rfl fq0 fun T27 h27 X27 W27 => ?_
  have F28 := F20.wr W27
  have F29 := F21.other W27 (Ne.symm nq0)
  have F30 := F22.other W27 nq21
  have F31 := F23.wr W27 (Or.inl (List.mem_of_getElem? (i := 0) rfl))
  have F32 := G19_0.other W27 (Or.inr (slot_ne (Or.inr (Own.wd hw 13 rfl)) (Or.inl (Own.wd hw 38 rfl)) (by decide) (t := (.array (.array .int))) (t' := .int) (by decide) (by decide)))
  have F33 := G19_1.other W27 (Or.inr (slot_ne (Or.inr (Own.wd hw 16 rfl)) (Or.inl (Own.wd hw 38 rfl)) (by decide) (t := (.array .double)) (t' := .int) (by decide) (by decide)))
  have F34 := G19_2.other W27 (Or.inr (slot_ne (Or.inr (Own.wd hw 19 rfl)) (Or.inl (Own.wd hw 38 rfl)) (by decide) (t := (.array .long)) (t' := .int) (by decide) (by decide)))
  have F35 := G19_3.other W27 (Or.inr (slot_ne (Or.inl (Own.wd hw 26 rfl)) (Or.inl (Own.wd hw 38 rfl)) (by decide) (t := .int) (t' := .int) (by decide) (by decide)))
  have F36 := G19_4.other W27 (Or.inr (slot_ne (Or.inl (Own.wd hw 36 rfl)) (Or.inl (Own.wd hw 38 rfl)) (by decide) (t := .long) (t' := .int) (by decide) (by decide)))
  have F37 := G19_6.other W27 (Or.inr (slot_ne (Or.inl (Own.wd hw 40 rfl)) (Or.inl (Own.wd hw 38 rfl)) (by decide) (t := .int) (t' := .int) (by decide) (by decide)))
  have F38 := G19_7.other W27 (Ne.symm nq4)
  have F39 := G19_8.other W27 (Ne.symm nq1)
  have F40 := G19_9.other W27 (Ne.symm nq2)
  have F41 : Fld Z h27 a "com/example/allocus/allocus/method/Population" "worst" "I" (.int (1 : Int32)) := Fld.same W27 G19_5
  have Z42 : n0 ≤ h27.size := by rw [W27.size]; exact Z24
  clear F20 F21 F22 F23 G19_0 G19_1 G19_2 G19_3 G19_4 G19_5 G19_6 G19_7 G19_8 G19_9 X26
  refine Own.iload X27 d3_49 rfl ?_
  refine Own.iff_ X27 (pc' := 68) d3_51 (by decide) (fun q => absurd (show (1 : Int) = (0 : Int) from q) (show ¬ ((1 : Int) = (0 : Int)) from by decide)) (fun _ => ?_)
  refine Own.dloadN X27 d3_54 rfl ?_
  refine Own.aloadN X27 d3_55 rfl rfl ?_
  refine Own.getF_ X27 d3_56 (host := "") (Or.inl (Own.wd hw 15 rfl)) Via.refl F33 fun T43 X43 => ?_
  clear X27
  refine Own.aloadN X43 d3_59 rfl rfl ?_
  refine Own.getF_ X43 d3_60 (host := "") (Or.inl (Own.wd hw 39 rfl)) Via.refl F37 fun T44 X44 => ?_
  clear X43
  refine Own.daload_ X44 d3_63 F39 (by decide) rfl ?_
  refine Own.dcmpF X44 (pc' := 74) d3_64 d3_65 (by decide) n_dv n_b0 (fun _ => ?_) (fun q => absurd (show Own.dz b0 ≤ Own.dz dv from by omega) q)
  exact Own.retV X44 d3_74 ⟨rfl, F31, F32, F33, F34, F35, F36, F41, F37, F38, F39, F40⟩ (by decide) (by decide)
theorem ef_3_21020 (m : MethodId) (x0 : Addr) (x1 : Addr) (x2 : UInt64) : entryFrame m #[.ref x0, .ref x1, .double x2] 5 = mkF m 0 #[.val (.ref x0), .val (.ref x1), .val (.double x2), .second, .unset] [] := by first | (simp [entryFrame, mkF, argsToLocals, Value.category, maxLocals]; done) | rfl
set_option maxRecDepth 65536 in
set_option maxHeartbeats 40000000 in
theorem rm3_21020 (l : Launch) (Z : State) (a0 : Array Value) (hw : ∀ d ∈ tables_1, d.before a0 Z = true) (a : Addr) (si : Addr) (dv : UInt64) (pl : Addr) (oa : Addr) (na : Addr) (x0 : Addr) (x1 : Addr) (x2 : Addr) (k_pl : ClassId) (c_pl : ClassId) (k_oa : ClassId) (k_na : ClassId) (b0 : UInt64) (b1 : UInt64) (b2 : UInt64) (m0 : Int64) (m1 : Int64) (m2 : Int64) (eJ : Int64) (k_si : ClassId) (y0 : Int32) (u20 : Int32) (h0 : Heap) (n0 : Nat) (Z0 : n0 ≤ h0.size) (fc0 : Exa Z h0 a "com/example/allocus/allocus/method/Population") (fc1 : Fld Z h0 a "com/example/allocus/allocus/method/Population" "plans" "[[I" (.ref pl)) (fc2 : Fld Z h0 a "com/example/allocus/allocus/method/Population" "objectives" "[D" (.ref oa)) (fc3 : Fld Z h0 a "com/example/allocus/allocus/method/Population" "entered" "[J" (.ref na)) (fc4 : Fld Z h0 a "com/example/allocus/allocus/method/Population" "count" "I" (.int (2 : Int32))) (fc5 : Fld Z h0 a "com/example/allocus/allocus/method/Population" "entries" "J" (.long eJ)) (fc6 : Fld Z h0 a "com/example/allocus/allocus/method/Population" "worst" "I" (.int (1 : Int32))) (fc7 : Fld Z h0 a "com/example/allocus/allocus/method/Population" "best" "I" (.int (0 : Int32))) (fc8 : Arv Z h0 pl k_pl (.array .int) (3 : Int32) [.ref x0, .ref x1, .ref x2] (.null)) (fc9 : Arv Z h0 x2 c_pl .int (1 : Int32) [.int u20] (.int (0 : Int32))) (fc10 : Arv Z h0 oa k_oa .double (3 : Int32) [.double b0, .double b1, .double b2] (.double 0)) (fc11 : Arv Z h0 na k_na .long (3 : Int32) [.long m0, .long m1, .long m2] (.long (0 : Int64))) (fc12 : Arv Z h0 si k_si .int (1 : Int32) [.int y0] (.int (0 : Int32))) (nq0 : a ≠ pl) (nq1 : a ≠ oa) (nq2 : a ≠ na) (nq3 : a ≠ x0) (nq4 : a ≠ x1) (nq5 : a ≠ x2) (nq6 : pl ≠ oa) (nq7 : pl ≠ na) (nq8 : pl ≠ x0) (nq9 : pl ≠ x1) (nq10 : pl ≠ x2) (nq11 : oa ≠ na) (nq12 : oa ≠ x0) (nq13 : oa ≠ x1) (nq14 : oa ≠ x2) (nq15 : na ≠ x0) (nq16 : na ≠ x1) (nq17 : na ≠ x2) (nq18 : x0 ≠ x1) (nq19 : x0 ≠ x2) (nq20 : x1 ≠ x2) (nq21 : si ≠ a) (nq22 : si ≠ pl) (nq23 : si ≠ oa) (nq24 : si ≠ na) (nq25 : si ≠ x0) (nq26 : si ≠ x1) (nq27 : si ≠ x2) (fq0 : n0 ≤ a) (fq1 : n0 ≤ x0) (fq2 : n0 ≤ x1) (fq3 : n0 ≤ x2) (fq4 : n0 ≤ oa) (fq5 : n0 ≤ na) (n_dv : NoNaN64 dv) (n_b0 : NoNaN64 b0) (n_b1 : NoNaN64 b1) (c1 : Own.dz b1 < Own.dz dv) (c2 : Own.dz b0 ≤ Own.dz dv) :
    Own.Con l Z mn_3 [] prog_48_method_5_code 5 none ({ frames := 2, cells := 0, slots := 0, locals := 48 } : Room) #[.ref a, .ref si, .double dv] h0 n0 (fun v h => v = none ∧ Keep h0 h [a, x2, oa, na] ∧ Fld Z h a "com/example/allocus/allocus/method/Population" "plans" "[[I" (.ref pl) ∧ Fld Z h a "com/example/allocus/allocus/method/Population" "objectives" "[D" (.ref oa) ∧ Fld Z h a "com/example/allocus/allocus/method/Population" "entered" "[J" (.ref na) ∧ Fld Z h a "com/example/allocus/allocus/method/Population" "count" "I" (.int (3 : Int32)) ∧ Fld Z h a "com/example/allocus/allocus/method/Population" "entries" "J" (.long (eJ + (1 : Int64))) ∧ Fld Z h a "com/example/allocus/allocus/method/Population" "worst" "I" (.int (2 : Int32)) ∧ Fld Z h a "com/example/allocus/allocus/method/Population" "best" "I" (.int (0 : Int32)) ∧ Arv Z h x2 c_pl .int (1 : Int32) [.int y0] (.int (0 : Int32)) ∧ Arv Z h oa k_oa .double (3 : Int32) [.double b0, .double b1, .double dv] (.double 0) ∧ Arv Z h na k_na .long (3 : Int32) [.long m0, .long m1, .long eJ] (.long (0 : Int64))) := by
  refine Own.enter (own := "com/example/allocus/allocus/method/Population") (nm := "add") (plainFor_of_name pn_com_example_allocus_allocus_method_Population) rfl rfl (fun m => ef_3_21020 m a si dv) fun p e s m below meth c T X => ?_
  refine Own.aloadN X d3_0 rfl rfl ?_
  refine Own.getF_ X d3_1 (host := "") (Or.inl (Own.wd hw 25 rfl)) Via.refl fc4 fun T1 X1 => ?_
  clear X
  refine Own.istore X1 d3_4 (l' := #[.val (.ref a), .val (.ref si), .val (.double dv), .second, .val (.int (2 : Int32))]) rfl ?_
  refine Own.aloadN X1 d3_6 rfl rfl ?_
  refine Own.dup X1 d3_7 rfl ?_
  refine Own.getF_ X1 d3_8 (host := "") (Or.inl (Own.wd hw 25 rfl)) Via.refl fc4 fun T2 X2 => ?_
  clear X1
  refine Own.iconst X2 (v := 1) d3_11 rfl ?_
  refine Own.iadd X2 d3_12 ?_
  show Own.Go p e below s n0 _ _ _ (T2.setTop (mkF m 13 _ [.int (3 : Int32), .ref a]))
  refine Own.putF_ X2 d3_13 (host := "") (Or.inl (Own.wd hw 25 rfl)) Via.refl fc4 fc0 (Or.inl (Own.wd hw 26 rfl)) (Own.wd hw 2 rfl) (ty := .int) (by decide) rfl rfl fq0 fun T3 h3 X3 W3 => ?_
  have F4 := fc0.wr W3
  have F5 := fc1.other W3 (Or.inr (slot_ne (Or.inr (Own.wd hw 13 rfl)) (Or.inl (Own.wd hw 26 rfl)) (by decide) (t := (.array (.array .int))) (t' := .int) (by decide) (by decide)))
  have F6 := fc2.other W3 (Or.inr (slot_ne (Or.inr (Own.wd hw 16 rfl)) (Or.inl (Own.wd hw 26 rfl)) (by decide) (t := (.array .double)) (t' := .int) (by decide) (by decide)))
  have F7 := fc3.other W3 (Or.inr (slot_ne (Or.inr (Own.wd hw 19 rfl)) (Or.inl (Own.wd hw 26 rfl)) (by decide) (t := (.array .long)) (t' := .int) (by decide) (by decide)))
  have F8 := fc5.other W3 (Or.inr (slot_ne (Or.inl (Own.wd hw 36 rfl)) (Or.inl (Own.wd hw 26 rfl)) (by decide) (t := .long) (t' := .int) (by decide) (by decide)))
  have F9 := fc6.other W3 (Or.inr (slot_ne (Or.inl (Own.wd hw 38 rfl)) (Or.inl (Own.wd hw 26 rfl)) (by decide) (t := .int) (t' := .int) (by decide) (by decide)))
  have F10 := fc7.other W3 (Or.inr (slot_ne (Or.inl (Own.wd hw 40 rfl)) (Or.inl (Own.wd hw 26 rfl)) (by decide) (t := .int) (t' := .int) (by decide) (by decide)))
  have F11 := fc8.other W3 (Ne.symm nq0)
  have F12 := fc9.other W3 (Ne.symm nq5)
  have F13 := fc10.other W3 (Ne.symm nq1)
  have F14 := fc11.other W3 (Ne.symm nq2)
  have F15 := fc12.other W3 nq21
  have F16 := (Keep.refl h0 [a, x2, oa, na]).wr W3 (Or.inl (List.mem_of_getElem? (i := 0) rfl))
  have F17 : Fld Z h3 a "com/example/allocus/allocus/method/Population" "count" "I" (.int (3 : Int32)) := Fld.same W3 fc4
  have Z18 : n0 ≤ h3.size := by rw [W3.size]; exact Z0
  clear X2 fc0 fc1 fc10 fc11 fc12 fc2 fc3 fc4 fc5 fc6 fc7 fc8 fc9
  refine Own.aloadN X3 d3_16 rfl rfl ?_
  refine Own.iload X3 d3_17 rfl ?_
  refine Own.aloadN X3 d3_19 rfl rfl ?_
  refine Own.dloadN X3 d3_20 rfl ?_
  refine Own.callP_ (y := mn_1) (D := "com/example/allocus/allocus/method/Population") (z' := mn_3) (z := mn_3) (a := a) X3 d3_21 (Own.wd hw 27 rfl) (Own.wd hw 28 rfl) (Own.wd hw 23 rfl) rfl (Own.wd hw 29 rfl) (Own.wd hw 3 rfl) (Own.wd hw 30 rfl) (by decide) F4 (rm4_2 l Z a0 hw a si dv pl oa na x0 x1 x2 k_pl c_pl k_oa k_na b0 b1 b2 m0 m1 m2 eJ k_si y0 u20 (3 : Int32) (1 : Int32) (0 : Int32) h3 n0 Z18 F4 F5 F6 F7 F17 F8 F9 F10 F11 F12 F13 F14 F15 nq0 nq1 nq2 nq3 nq4 nq5 nq6 nq7 nq8 nq9 nq10 nq11 nq12 nq13 nq14 nq15 nq16 nq17 nq18 nq19 nq20 nq21 nq22 nq23 nq24 nq25 nq26 nq27 fq0 fq1 fq2 fq3 fq4 fq5 ) (lenOf pd_2 rfl) rfl (argsL := [.int (2 : Int32), .ref si, .double dv]) (rest := []) rfl (W := 0) (Nat.le_of_eq rfl) (by decide) (by decide) (by decide) (by decide) fun T19 h19 v19 X19 q19 => ?_
  obtain ⟨rfl, K19, G19_0, G19_1, G19_2, G19_3, G19_4, G19_5, G19_6, G19_7, G19_8, G19_9⟩ := q19
  have F20 := F4.keep K19
  have F21 := F11.keep K19 (ninS (Ne.symm nq0) (ninS nq10 (ninS nq6 (ninS nq7 nin0))))
  have F22 := F15.keep K19 (ninS nq21 (ninS nq27 (ninS nq23 (ninS nq24 nin0))))
  have F23 := F16.trans K19 (allS (Or.inl (List.mem_of_getElem? (i := 0) rfl)) (allS (Or.inl (List.mem_of_getElem? (i := 1) rfl)) (allS (Or.inl (List.mem_of_getElem? (i := 2) rfl)) (allS (Or.inl (List.mem_of_getElem? (i := 3) rfl)) all0))))
  have Z24 : n0 ≤ h19.size := Nat.le_trans Z18 K19.1
  show Own.Go p e below s n0 _ _ _ (T19.setTop (mkF m 24 _ []))
  clear F10 F11 F12 F13 F14 F15 F16 F17 F4 F5 F6 F7 F8 F9 X3
  refine Own.iload X19 d3_24 rfl ?_
  refine Own.iff_ X19 (pc' := 43) d3_26 (by decide) (fun q => absurd (show (2 : Int) = (0 : Int) from q) (show ¬ ((2 : Int) = (0 : Int)) from by decide)) (fun _ => ?_)
  refine Own.dloadN X19 d3_29 rfl ?_
  refine Own.aloadN X19 d3_30 rfl rfl ?_
  refine Own.getF_ X19 d3_31 (host := "") (Or.inl (Own.wd hw 15 rfl)) Via.refl G19_1 fun T25 X25 => ?_
  clear X19
  refine Own.aloadN X25 d3_34 rfl rfl ?_
  refine Own.getF_ X25 d3_35 (host := "") (Or.inl (Own.wd hw 37 rfl)) Via.refl G19_5 fun T26 X26 => ?_
  clear X25
  refine Own.daload_ X26 d3_38 G19_8 (by decide) rfl ?_
  refine Own.dcmpF X26 (pc' := 49) d3_39 d3_40 (by decide) n_dv n_b1 (fun q => absurd (show Own.dz dv ≤ Own.dz b1 from q) (show ¬ (Own.dz dv ≤ Own.dz b1) from by omega)) (fun _ => ?_)
  refine Own.aloadN X26 d3_43 rfl rfl ?_
  refine Own.iload X26 d3_44 rfl ?_
  refine Own.putF_ X26 d3_46 (host := "") (Or.inl (Own.wd hw 37 rfl)) Via.refl G19_5 F20 (Or.inl (Own.wd hw 38 rfl)) (Own.wd hw 2 rfl) (ty := .int) (by decide) rfl rfl fq0 fun T27 h27 X27 W27 => ?_
  have F28 := F20.wr W27
  have F29 := F21.other W27 (Ne.symm nq0)
  have F30 := F22.other W27 nq21
  have F31 := F23.wr W27 (Or.inl (List.mem_of_getElem? (i := 0) rfl))
  have F32 := G19_0.other W27 (Or.inr (slot_ne (Or.inr (Own.wd hw 13 rfl)) (Or.inl (Own.wd hw 38 rfl)) (by decide) (t := (.array (.array .int))) (t' := .int) (by decide) (by decide)))
  have F33 := G19_1.other W27 (Or.inr (slot_ne (Or.inr (Own.wd hw 16 rfl)) (Or.inl (Own.wd hw 38 rfl)) (by decide) (t := (.array .double)) (t' := .int) (by decide) (by decide)))
  have F34 := G19_2.other W27 (Or.inr (slot_ne (Or.inr (Own.wd hw 19 rfl)) (Or.inl (Own.wd hw 38 rfl)) (by decide) (t := (.array .long)) (t' := .int) (by decide) (by decide)))
  have F35 := G19_3.other W27 (Or.inr (slot_ne (Or.inl (Own.wd hw 26 rfl)) (Or.inl (Own.wd hw 38 rfl)) (by decide) (t := .int) (t' := .int) (by decide) (by decide)))
  have F36 := G19_4.other W27 (Or.inr (slot_ne (Or.inl (Own.wd hw 36 rfl)) (Or.inl (Own.wd hw 38 rfl)) (by decide) (t := .long) (t' := .int) (by decide) (by decide)))
  have F37 := G19_6.other W27 (Or.inr (slot_ne (Or.inl (Own.wd hw 40 rfl)) (Or.inl (Own.wd hw 38 rfl)) (by decide) (t := .int) (t' := .int) (by decide) (by decide)))
  have F38 := G19_7.other W27 (Ne.symm nq5)
  have F39 := G19_8.other W27 (Ne.symm nq1)
  have F40 := G19_9.other W27 (Ne.symm nq2)
  have F41 : Fld Z h27 a "com/example/allocus/allocus/method/Population" "worst" "I" (.int (2 : Int32)) := Fld.same W27 G19_5
  have Z42 : n0 ≤ h27.size := by rw [W27.size]; exact Z24
  clear F20 F21 F22 F23 G19_0 G19_1 G19_2 G19_3 G19_4 G19_5 G19_6 G19_7 G19_8 G19_9 X26
  refine Own.iload X27 d3_49 rfl ?_
  refine Own.iff_ X27 (pc' := 68) d3_51 (by decide) (fun q => absurd (show (2 : Int) = (0 : Int) from q) (show ¬ ((2 : Int) = (0 : Int)) from by decide)) (fun _ => ?_)
  refine Own.dloadN X27 d3_54 rfl ?_
  refine Own.aloadN X27 d3_55 rfl rfl ?_
  refine Own.getF_ X27 d3_56 (host := "") (Or.inl (Own.wd hw 15 rfl)) Via.refl F33 fun T43 X43 => ?_
  clear X27
  refine Own.aloadN X43 d3_59 rfl rfl ?_
  refine Own.getF_ X43 d3_60 (host := "") (Or.inl (Own.wd hw 39 rfl)) Via.refl F37 fun T44 X44 => ?_
  clear X43
  refine Own.daload_ X44 d3_63 F39 (by decide) rfl ?_
  refine Own.dcmpF X44 (pc' := 74) d3_64 d3_65 (by decide) n_dv n_b0 (fun _ => ?_) (fun q => absurd (show Own.dz b0 ≤ Own.dz dv from by omega) q)
  exact Own.retV X44 d3_74 ⟨rfl, F31, F32, F33, F34, F35, F36, F41, F37, F38, F39, F40⟩ (by decide) (by decide)
theorem ef_3_21012 (m : MethodId) (x0 : Addr) (x1 : Addr) (x2 : UInt64) : entryFrame m #[.ref x0, .ref x1, .double x2] 5 = mkF m 0 #[.val (.ref x0), .val (.ref x1), .val (.double x2), .second, .unset] [] := by first | (simp [entryFrame, mkF, argsToLocals, Value.category, maxLocals]; done) | rfl
set_option maxRecDepth 65536 in
set_option maxHeartbeats 40000000 in
theorem rm3_21012 (l : Launch) (Z : State) (a0 : Array Value) (hw : ∀ d ∈ tables_1, d.before a0 Z = true) (a : Addr) (si : Addr) (dv : UInt64) (pl : Addr) (oa : Addr) (na : Addr) (x0 : Addr) (x1 : Addr) (x2 : Addr) (k_pl : ClassId) (c_pl : ClassId) (k_oa : ClassId) (k_na : ClassId) (b0 : UInt64) (b1 : UInt64) (b2 : UInt64) (m0 : Int64) (m1 : Int64) (m2 : Int64) (eJ : Int64) (k_si : ClassId) (y0 : Int32) (u20 : Int32) (h0 : Heap) (n0 : Nat) (Z0 : n0 ≤ h0.size) (fc0 : Exa Z h0 a "com/example/allocus/allocus/method/Population") (fc1 : Fld Z h0 a "com/example/allocus/allocus/method/Population" "plans" "[[I" (.ref pl)) (fc2 : Fld Z h0 a "com/example/allocus/allocus/method/Population" "objectives" "[D" (.ref oa)) (fc3 : Fld Z h0 a "com/example/allocus/allocus/method/Population" "entered" "[J" (.ref na)) (fc4 : Fld Z h0 a "com/example/allocus/allocus/method/Population" "count" "I" (.int (2 : Int32))) (fc5 : Fld Z h0 a "com/example/allocus/allocus/method/Population" "entries" "J" (.long eJ)) (fc6 : Fld Z h0 a "com/example/allocus/allocus/method/Population" "worst" "I" (.int (1 : Int32))) (fc7 : Fld Z h0 a "com/example/allocus/allocus/method/Population" "best" "I" (.int (0 : Int32))) (fc8 : Arv Z h0 pl k_pl (.array .int) (3 : Int32) [.ref x0, .ref x1, .ref x2] (.null)) (fc9 : Arv Z h0 x2 c_pl .int (1 : Int32) [.int u20] (.int (0 : Int32))) (fc10 : Arv Z h0 oa k_oa .double (3 : Int32) [.double b0, .double b1, .double b2] (.double 0)) (fc11 : Arv Z h0 na k_na .long (3 : Int32) [.long m0, .long m1, .long m2] (.long (0 : Int64))) (fc12 : Arv Z h0 si k_si .int (1 : Int32) [.int y0] (.int (0 : Int32))) (nq0 : a ≠ pl) (nq1 : a ≠ oa) (nq2 : a ≠ na) (nq3 : a ≠ x0) (nq4 : a ≠ x1) (nq5 : a ≠ x2) (nq6 : pl ≠ oa) (nq7 : pl ≠ na) (nq8 : pl ≠ x0) (nq9 : pl ≠ x1) (nq10 : pl ≠ x2) (nq11 : oa ≠ na) (nq12 : oa ≠ x0) (nq13 : oa ≠ x1) (nq14 : oa ≠ x2) (nq15 : na ≠ x0) (nq16 : na ≠ x1) (nq17 : na ≠ x2) (nq18 : x0 ≠ x1) (nq19 : x0 ≠ x2) (nq20 : x1 ≠ x2) (nq21 : si ≠ a) (nq22 : si ≠ pl) (nq23 : si ≠ oa) (nq24 : si ≠ na) (nq25 : si ≠ x0) (nq26 : si ≠ x1) (nq27 : si ≠ x2) (fq0 : n0 ≤ a) (fq1 : n0 ≤ x0) (fq2 : n0 ≤ x1) (fq3 : n0 ≤ x2) (fq4 : n0 ≤ oa) (fq5 : n0 ≤ na) (n_dv : NoNaN64 dv) (n_b0 : NoNaN64 b0) (n_b1 : NoNaN64 b1) (c1 : Own.dz dv ≤ Own.dz b1) (c2 : Own.dz dv < Own.dz b0) :
    Own.Con l Z mn_3 [] prog_48_method_5_code 5 none ({ frames := 2, cells := 0, slots := 0, locals := 48 } : Room) #[.ref a, .ref si, .double dv] h0 n0 (fun v h => v = none ∧ Keep h0 h [a, x2, oa, na] ∧ Fld Z h a "com/example/allocus/allocus/method/Population" "plans" "[[I" (.ref pl) ∧ Fld Z h a "com/example/allocus/allocus/method/Population" "objectives" "[D" (.ref oa) ∧ Fld Z h a "com/example/allocus/allocus/method/Population" "entered" "[J" (.ref na) ∧ Fld Z h a "com/example/allocus/allocus/method/Population" "count" "I" (.int (3 : Int32)) ∧ Fld Z h a "com/example/allocus/allocus/method/Population" "entries" "J" (.long (eJ + (1 : Int64))) ∧ Fld Z h a "com/example/allocus/allocus/method/Population" "worst" "I" (.int (1 : Int32)) ∧ Fld Z h a "com/example/allocus/allocus/method/Population" "best" "I" (.int (2 : Int32)) ∧ Arv Z h x2 c_pl .int (1 : Int32) [.int y0] (.int (0 : Int32)) ∧ Arv Z h oa k_oa .double (3 : Int32) [.double b0, .double b1, .double dv] (.double 0) ∧ Arv Z h na k_na .long (3 : Int32) [.long m0, .long m1, .long eJ] (.long (0 : Int64))) := by
  refine Own.enter (own := "com/example/allocus/allocus/method/Population") (nm := "add") (plainFor_of_name pn_com_example_allocus_allocus_method_Population) rfl rfl (fun m => ef_3_21012 m a si dv) fun p e s m below meth c T X => ?_
  refine Own.aloadN X d3_0 rfl rfl ?_
  refine Own.getF_ X d3_1 (host := "") (Or.inl (Own.wd hw 25 rfl)) Via.refl fc4 fun T1 X1 => ?_
  clear X
  refine Own.istore X1 d3_4 (l' := #[.val (.ref a), .val (.ref si), .val (.double dv), .second, .val (.int (2 : Int32))]) rfl ?_
  refine Own.aloadN X1 d3_6 rfl rfl ?_
  refine Own.dup X1 d3_7 rfl ?_
  refine Own.getF_ X1 d3_8 (host := "") (Or.inl (Own.wd hw 25 rfl)) Via.refl fc4 fun T2 X2 => ?_
  clear X1
  refine Own.iconst X2 (v := 1) d3_11 rfl ?_
  refine Own.iadd X2 d3_12 ?_
  show Own.Go p e below s n0 _ _ _ (T2.setTop (mkF m 13 _ [.int (3 : Int32), .ref a]))
  refine Own.putF_ X2 d3_13 (host := "") (Or.inl (Own.wd hw 25 rfl)) Via.refl fc4 fc0 (Or.inl (Own.wd hw 26 rfl)) (Own.wd hw 2 rfl) (ty := .int) (by decide) rfl rfl fq0 fun T3 h3 X3 W3 => ?_
  have F4 := fc0.wr W3
  have F5 := fc1.other W3 (Or.inr (slot_ne (Or.inr (Own.wd hw 13 rfl)) (Or.inl (Own.wd hw 26 rfl)) (by decide) (t := (.array (.array .int))) (t' := .int) (by decide) (by decide)))
  have F6 := fc2.other W3 (Or.inr (slot_ne (Or.inr (Own.wd hw 16 rfl)) (Or.inl (Own.wd hw 26 rfl)) (by decide) (t := (.array .double)) (t' := .int) (by decide) (by decide)))
  have F7 := fc3.other W3 (Or.inr (slot_ne (Or.inr (Own.wd hw 19 rfl)) (Or.inl (Own.wd hw 26 rfl)) (by decide) (t := (.array .long)) (t' := .int) (by decide) (by decide)))
  have F8 := fc5.other W3 (Or.inr (slot_ne (Or.inl (Own.wd hw 36 rfl)) (Or.inl (Own.wd hw 26 rfl)) (by decide) (t := .long) (t' := .int) (by decide) (by decide)))
  have F9 := fc6.other W3 (Or.inr (slot_ne (Or.inl (Own.wd hw 38 rfl)) (Or.inl (Own.wd hw 26 rfl)) (by decide) (t := .int) (t' := .int) (by decide) (by decide)))
  have F10 := fc7.other W3 (Or.inr (slot_ne (Or.inl (Own.wd hw 40 rfl)) (Or.inl (Own.wd hw 26 rfl)) (by decide) (t := .int) (t' := .int) (by decide) (by decide)))
  have F11 := fc8.other W3 (Ne.symm nq0)
  have F12 := fc9.other W3 (Ne.symm nq5)
  have F13 := fc10.other W3 (Ne.symm nq1)
  have F14 := fc11.other W3 (Ne.symm nq2)
  have F15 := fc12.other W3 nq21
  have F16 := (Keep.refl h0 [a, x2, oa, na]).wr W3 (Or.inl (List.mem_of_getElem? (i := 0) rfl))
  have F17 : Fld Z h3 a "com/example/allocus/allocus/method/Population" "count" "I" (.int (3 : Int32)) := Fld.same W3 fc4
  have Z18 : n0 ≤ h3.size := by rw [W3.size]; exact Z0
  clear X2 fc0 fc1 fc10 fc11 fc12 fc2 fc3 fc4 fc5 fc6 fc7 fc8 fc9
  refine Own.aloadN X3 d3_16 rfl rfl ?_
  refine Own.iload X3 d3_17 rfl ?_
  refine Own.aloadN X3 d3_19 rfl rfl ?_
  refine Own.dloadN X3 d3_20 rfl ?_
  refine Own.callP_ (y := mn_1) (D := "com/example/allocus/allocus/method/Population") (z' := mn_3) (z := mn_3) (a := a) X3 d3_21 (Own.wd hw 27 rfl) (Own.wd hw 28 rfl) (Own.wd hw 23 rfl) rfl (Own.wd hw 29 rfl) (Own.wd hw 3 rfl) (Own.wd hw 30 rfl) (by decide) F4 (rm4_2 l Z a0 hw a si dv pl oa na x0 x1 x2 k_pl c_pl k_oa k_na b0 b1 b2 m0 m1 m2 eJ k_si y0 u20 (3 : Int32) (1 : Int32) (0 : Int32) h3 n0 Z18 F4 F5 F6 F7 F17 F8 F9 F10 F11 F12 F13 F14 F15 nq0 nq1 nq2 nq3 nq4 nq5 nq6 nq7 nq8 nq9 nq10 nq11 nq12 nq13 nq14 nq15 nq16 nq17 nq18 nq19 nq20 nq21 nq22 nq23 nq24 nq25 nq26 nq27 fq0 fq1 fq2 fq3 fq4 fq5 ) (lenOf pd_2 rfl) rfl (argsL := [.int (2 : Int32), .ref si, .double dv]) (rest := []) rfl (W := 0) (Nat.le_of_eq rfl) (by decide) (by decide) (by decide) (by decide) fun T19 h19 v19 X19 q19 => ?_
  obtain ⟨rfl, K19, G19_0, G19_1, G19_2, G19_3, G19_4, G19_5, G19_6, G19_7, G19_8, G19_9⟩ := q19
  have F20 := F4.keep K19
  have F21 := F11.keep K19 (ninS (Ne.symm nq0) (ninS nq10 (ninS nq6 (ninS nq7 nin0))))
  have F22 := F15.keep K19 (ninS nq21 (ninS nq27 (ninS nq23 (ninS nq24 nin0))))
  have F23 := F16.trans K19 (allS (Or.inl (List.mem_of_getElem? (i := 0) rfl)) (allS (Or.inl (List.mem_of_getElem? (i := 1) rfl)) (allS (Or.inl (List.mem_of_getElem? (i := 2) rfl)) (allS (Or.inl (List.mem_of_getElem? (i := 3) rfl)) all0))))
  have Z24 : n0 ≤ h19.size := Nat.le_trans Z18 K19.1
  show Own.Go p e below s n0 _ _ _ (T19.setTop (mkF m 24 _ []))
  clear F10 F11 F12 F13 F14 F15 F16 F17 F4 F5 F6 F7 F8 F9 X3
  refine Own.iload X19 d3_24 rfl ?_
  refine Own.iff_ X19 (pc' := 43) d3_26 (by decide) (fun q => absurd (show (2 : Int) = (0 : Int) from q) (show ¬ ((2 : Int) = (0 : Int)) from by decide)) (fun _ => ?_)
  refine Own.dloadN X19 d3_29 rfl ?_
  refine Own.aloadN X19 d3_30 rfl rfl ?_
  refine Own.getF_ X19 d3_31 (host := "") (Or.inl (Own.wd hw 15 rfl)) Via.refl G19_1 fun T25 X25 => ?_
  clear X19
  refine Own.aloadN X25 d3_34 rfl rfl ?_
  refine Own.getF_ X25 d3_35 (host := "") (Or.inl (Own.wd hw 37 rfl)) Via.refl G19_5 fun T26 X26 => ?_
  clear X25
  refine Own.daload_ X26 d3_38 G19_8 (by decide) rfl ?_
  refine Own.dcmpF X26 (pc' := 49) d3_39 d3_40 (by decide) n_dv n_b1 (fun _ => ?_) (fun q => absurd (show Own.dz dv ≤ Own.dz b1 from by omega) q)
  refine Own.iload X26 d3_49 rfl ?_
  refine Own.iff_ X26 (pc' := 68) d3_51 (by decide) (fun q => absurd (show (2 : Int) = (0 : Int) from q) (show ¬ ((2 : Int) = (0 : Int)) from by decide)) (fun _ => ?_)
  refine Own.dloadN X26 d3_54 rfl ?_
  refine Own.aloadN X26 d3_55 rfl rfl ?_
  refine Own.getF_ X26 d3_56 (host := "") (Or.inl (Own.wd hw 15 rfl)) Via.refl G19_1 fun T27 X27 => ?_
  clear X26
  refine Own.aloadN X27 d3_59 rfl rfl ?_
  refine Own.getF_ X27 d3_60 (host := "") (Or.inl (Own.wd hw 39 rfl)) Via.refl G19_6 fun T28 X28 => ?_
  clear X27
  refine Own.daload_ X28 d3_63 G19_8 (by decide) rfl ?_
  refine Own.dcmpF X28 (pc' := 74) d3_64 d3_65 (by decide) n_dv n_b0 (fun q => absurd (show Own.dz b0 ≤ Own.dz dv from q) (show ¬ (Own.dz b0 ≤ Own.dz dv) from by omega)) (fun _ => ?_)
  refine Own.aloadN X28 d3_68 rfl rfl ?_
  refine Own.iload X28 d3_69 rfl ?_
  refine Own.putF_ X28 d3_71 (host := "") (Or.inl (Own.wd hw 39 rfl)) Via.refl G19_6 F20 (Or.inl (Own.wd hw 40 rfl)) (Own.wd hw 2 rfl) (ty := .int) (by decide) rfl rfl fq0 fun T29 h29 X29 W29 => ?_
  have F30 := F20.wr W29
  have F31 := F21.other W29 (Ne.symm nq0)
  have F32 := F22.other W29 nq21
  have F33 := F23.wr W29 (Or.inl (List.mem_of_getElem? (i := 0) rfl))
  have F34 := G19_0.other W29 (Or.inr (slot_ne (Or.inr (Own.wd hw 13 rfl)) (Or.inl (Own.wd hw 40 rfl)) (by decide) (t := (.array (.array .int))) (t' := .int) (by decide) (by decide)))
  have F35 := G19_1.other W29 (Or.inr (slot_ne (Or.inr (Own.wd hw 16 rfl)) (Or.inl (Own.wd hw 40 rfl)) (by decide) (t := (.array .double)) (t' := .int) (by decide) (by decide)))
  have F36 := G19_2.other W29 (Or.inr (slot_ne (Or.inr (Own.wd hw 19 rfl)) (Or.inl (Own.wd hw 40 rfl)) (by decide) (t := (.array .long)) (t' := .int) (by decide) (by decide)))
  have F37 := G19_3.other W29 (Or.inr (slot_ne (Or.inl (Own.wd hw 26 rfl)) (Or.inl (Own.wd hw 40 rfl)) (by decide) (t := .int) (t' := .int) (by decide) (by decide)))
  have F38 := G19_4.other W29 (Or.inr (slot_ne (Or.inl (Own.wd hw 36 rfl)) (Or.inl (Own.wd hw 40 rfl)) (by decide) (t := .long) (t' := .int) (by decide) (by decide)))
  have F39 := G19_5.other W29 (Or.inr (slot_ne (Or.inl (Own.wd hw 38 rfl)) (Or.inl (Own.wd hw 40 rfl)) (by decide) (t := .int) (t' := .int) (by decide) (by decide)))
  have F40 := G19_7.other W29 (Ne.symm nq5)
  have F41 := G19_8.other W29 (Ne.symm nq1)
  have F42 := G19_9.other W29 (Ne.symm nq2)
  have F43 : Fld Z h29 a "com/example/allocus/allocus/method/Population" "best" "I" (.int (2 : Int32)) := Fld.same W29 G19_6
  have Z44 : n0 ≤ h29.size := by rw [W29.size]; exact Z24
  clear F20 F21 F22 F23 G19_0 G19_1 G19_2 G19_3 G19_4 G19_5 G19_6 G19_7 G19_8 G19_9 X28
  exact Own.retV X29 d3_74 ⟨rfl, F33, F34, F35, F36, F37, F38, F39, F43, F40, F41, F42⟩ (by decide) (by decide)
theorem ef_3_21010 (m : MethodId) (x0 : Addr) (x1 : Addr) (x2 : UInt64) : entryFrame m #[.ref x0, .ref x1, .double x2] 5 = mkF m 0 #[.val (.ref x0), .val (.ref x1), .val (.double x2), .second, .unset] [] := by first | (simp [entryFrame, mkF, argsToLocals, Value.category, maxLocals]; done) | rfl
set_option maxRecDepth 65536 in
set_option maxHeartbeats 40000000 in
theorem rm3_21010 (l : Launch) (Z : State) (a0 : Array Value) (hw : ∀ d ∈ tables_1, d.before a0 Z = true) (a : Addr) (si : Addr) (dv : UInt64) (pl : Addr) (oa : Addr) (na : Addr) (x0 : Addr) (x1 : Addr) (x2 : Addr) (k_pl : ClassId) (c_pl : ClassId) (k_oa : ClassId) (k_na : ClassId) (b0 : UInt64) (b1 : UInt64) (b2 : UInt64) (m0 : Int64) (m1 : Int64) (m2 : Int64) (eJ : Int64) (k_si : ClassId) (y0 : Int32) (u20 : Int32) (h0 : Heap) (n0 : Nat) (Z0 : n0 ≤ h0.size) (fc0 : Exa Z h0 a "com/example/allocus/allocus/method/Population") (fc1 : Fld Z h0 a "com/example/allocus/allocus/method/Population" "plans" "[[I" (.ref pl)) (fc2 : Fld Z h0 a "com/example/allocus/allocus/method/Population" "objectives" "[D" (.ref oa)) (fc3 : Fld Z h0 a "com/example/allocus/allocus/method/Population" "entered" "[J" (.ref na)) (fc4 : Fld Z h0 a "com/example/allocus/allocus/method/Population" "count" "I" (.int (2 : Int32))) (fc5 : Fld Z h0 a "com/example/allocus/allocus/method/Population" "entries" "J" (.long eJ)) (fc6 : Fld Z h0 a "com/example/allocus/allocus/method/Population" "worst" "I" (.int (1 : Int32))) (fc7 : Fld Z h0 a "com/example/allocus/allocus/method/Population" "best" "I" (.int (0 : Int32))) (fc8 : Arv Z h0 pl k_pl (.array .int) (3 : Int32) [.ref x0, .ref x1, .ref x2] (.null)) (fc9 : Arv Z h0 x2 c_pl .int (1 : Int32) [.int u20] (.int (0 : Int32))) (fc10 : Arv Z h0 oa k_oa .double (3 : Int32) [.double b0, .double b1, .double b2] (.double 0)) (fc11 : Arv Z h0 na k_na .long (3 : Int32) [.long m0, .long m1, .long m2] (.long (0 : Int64))) (fc12 : Arv Z h0 si k_si .int (1 : Int32) [.int y0] (.int (0 : Int32))) (nq0 : a ≠ pl) (nq1 : a ≠ oa) (nq2 : a ≠ na) (nq3 : a ≠ x0) (nq4 : a ≠ x1) (nq5 : a ≠ x2) (nq6 : pl ≠ oa) (nq7 : pl ≠ na) (nq8 : pl ≠ x0) (nq9 : pl ≠ x1) (nq10 : pl ≠ x2) (nq11 : oa ≠ na) (nq12 : oa ≠ x0) (nq13 : oa ≠ x1) (nq14 : oa ≠ x2) (nq15 : na ≠ x0) (nq16 : na ≠ x1) (nq17 : na ≠ x2) (nq18 : x0 ≠ x1) (nq19 : x0 ≠ x2) (nq20 : x1 ≠ x2) (nq21 : si ≠ a) (nq22 : si ≠ pl) (nq23 : si ≠ oa) (nq24 : si ≠ na) (nq25 : si ≠ x0) (nq26 : si ≠ x1) (nq27 : si ≠ x2) (fq0 : n0 ≤ a) (fq1 : n0 ≤ x0) (fq2 : n0 ≤ x1) (fq3 : n0 ≤ x2) (fq4 : n0 ≤ oa) (fq5 : n0 ≤ na) (n_dv : NoNaN64 dv) (n_b0 : NoNaN64 b0) (n_b1 : NoNaN64 b1) (c1 : Own.dz dv ≤ Own.dz b1) (c2 : Own.dz b0 ≤ Own.dz dv) :
    Own.Con l Z mn_3 [] prog_48_method_5_code 5 none ({ frames := 2, cells := 0, slots := 0, locals := 48 } : Room) #[.ref a, .ref si, .double dv] h0 n0 (fun v h => v = none ∧ Keep h0 h [a, x2, oa, na] ∧ Fld Z h a "com/example/allocus/allocus/method/Population" "plans" "[[I" (.ref pl) ∧ Fld Z h a "com/example/allocus/allocus/method/Population" "objectives" "[D" (.ref oa) ∧ Fld Z h a "com/example/allocus/allocus/method/Population" "entered" "[J" (.ref na) ∧ Fld Z h a "com/example/allocus/allocus/method/Population" "count" "I" (.int (3 : Int32)) ∧ Fld Z h a "com/example/allocus/allocus/method/Population" "entries" "J" (.long (eJ + (1 : Int64))) ∧ Fld Z h a "com/example/allocus/allocus/method/Population" "worst" "I" (.int (1 : Int32)) ∧ Fld Z h a "com/example/allocus/allocus/method/Population" "best" "I" (.int (0 : Int32)) ∧ Arv Z h x2 c_pl .int (1 : Int32) [.int y0] (.int (0 : Int32)) ∧ Arv Z h oa k_oa .double (3 : Int32) [.double b0, .double b1, .double dv] (.double 0) ∧ Arv Z h na k_na .long (3 : Int32) [.long m0, .long m1, .long eJ] (.long (0 : Int64))) := by
  refine Own.enter (own := "com/example/allocus/allocus/method/Population") (nm := "add") (plainFor_of_name pn_com_example_allocus_allocus_method_Population) rfl rfl (fun m => ef_3_21010 m a si dv) fun p e s m below meth c T X => ?_
  refine Own.aloadN X d3_0 rfl rfl ?_
  refine Own.getF_ X d3_1 (host := "") (Or.inl (Own.wd hw 25 rfl)) Via.refl fc4 fun T1 X1 => ?_
  clear X
  refine Own.istore X1 d3_4 (l' := #[.val (.ref a), .val (.ref si), .val (.double dv), .second, .val (.int (2 : Int32))]) rfl ?_
  refine Own.aloadN X1 d3_6 rfl rfl ?_
  refine Own.dup X1 d3_7 rfl ?_
  refine Own.getF_ X1 d3_8 (host := "") (Or.inl (Own.wd hw 25 rfl)) Via.refl fc4 fun T2 X2 => ?_
  clear X1
  refine Own.iconst X2 (v := 1) d3_11 rfl ?_
  refine Own.iadd X2 d3_12 ?_
  show Own.Go p e below s n0 _ _ _ (T2.setTop (mkF m 13 _ [.int (3 : Int32), .ref a]))
  refine Own.putF_ X2 d3_13 (host := "") (Or.inl (Own.wd hw 25 rfl)) Via.refl fc4 fc0 (Or.inl (Own.wd hw 26 rfl)) (Own.wd hw 2 rfl) (ty := .int) (by decide) rfl rfl fq0 fun T3 h3 X3 W3 => ?_
  have F4 := fc0.wr W3
  have F5 := fc1.other W3 (Or.inr (slot_ne (Or.inr (Own.wd hw 13 rfl)) (Or.inl (Own.wd hw 26 rfl)) (by decide) (t := (.array (.array .int))) (t' := .int) (by decide) (by decide)))
  have F6 := fc2.other W3 (Or.inr (slot_ne (Or.inr (Own.wd hw 16 rfl)) (Or.inl (Own.wd hw 26 rfl)) (by decide) (t := (.array .double)) (t' := .int) (by decide) (by decide)))
  have F7 := fc3.other W3 (Or.inr (slot_ne (Or.inr (Own.wd hw 19 rfl)) (Or.inl (Own.wd hw 26 rfl)) (by decide) (t := (.array .long)) (t' := .int) (by decide) (by decide)))
  have F8 := fc5.other W3 (Or.inr (slot_ne (Or.inl (Own.wd hw 36 rfl)) (Or.inl (Own.wd hw 26 rfl)) (by decide) (t := .long) (t' := .int) (by decide) (by decide)))
  have F9 := fc6.other W3 (Or.inr (slot_ne (Or.inl (Own.wd hw 38 rfl)) (Or.inl (Own.wd hw 26 rfl)) (by decide) (t := .int) (t' := .int) (by decide) (by decide)))
  have F10 := fc7.other W3 (Or.inr (slot_ne (Or.inl (Own.wd hw 40 rfl)) (Or.inl (Own.wd hw 26 rfl)) (by decide) (t := .int) (t' := .int) (by decide) (by decide)))
  have F11 := fc8.other W3 (Ne.symm nq0)
  have F12 := fc9.other W3 (Ne.symm nq5)
  have F13 := fc10.other W3 (Ne.symm nq1)
  have F14 := fc11.other W3 (Ne.symm nq2)
  have F15 := fc12.other W3 nq21
  have F16 := (Keep.refl h0 [a, x2, oa, na]).wr W3 (Or.inl (List.mem_of_getElem? (i := 0) rfl))
  have F17 : Fld Z h3 a "com/example/allocus/allocus/method/Population" "count" "I" (.int (3 : Int32)) := Fld.same W3 fc4
  have Z18 : n0 ≤ h3.size := by rw [W3.size]; exact Z0
  clear X2 fc0 fc1 fc10 fc11 fc12 fc2 fc3 fc4 fc5 fc6 fc7 fc8 fc9
  refine Own.aloadN X3 d3_16 rfl rfl ?_
  refine Own.iload X3 d3_17 rfl ?_
  refine Own.aloadN X3 d3_19 rfl rfl ?_
  refine Own.dloadN X3 d3_20 rfl ?_
  refine Own.callP_ (y := mn_1) (D := "com/example/allocus/allocus/method/Population") (z' := mn_3) (z := mn_3) (a := a) X3 d3_21 (Own.wd hw 27 rfl) (Own.wd hw 28 rfl) (Own.wd hw 23 rfl) rfl (Own.wd hw 29 rfl) (Own.wd hw 3 rfl) (Own.wd hw 30 rfl) (by decide) F4 (rm4_2 l Z a0 hw a si dv pl oa na x0 x1 x2 k_pl c_pl k_oa k_na b0 b1 b2 m0 m1 m2 eJ k_si y0 u20 (3 : Int32) (1 : Int32) (0 : Int32) h3 n0 Z18 F4 F5 F6 F7 F17 F8 F9 F10 F11 F12 F13 F14 F15 nq0 nq1 nq2 nq3 nq4 nq5 nq6 nq7 nq8 nq9 nq10 nq11 nq12 nq13 nq14 nq15 nq16 nq17 nq18 nq19 nq20 nq21 nq22 nq23 nq24 nq25 nq26 nq27 fq0 fq1 fq2 fq3 fq4 fq5 ) (lenOf pd_2 rfl) rfl (argsL := [.int (2 : Int32), .ref si, .double dv]) (rest := []) rfl (W := 0) (Nat.le_of_eq rfl) (by decide) (by decide) (by decide) (by decide) fun T19 h19 v19 X19 q19 => ?_
  obtain ⟨rfl, K19, G19_0, G19_1, G19_2, G19_3, G19_4, G19_5, G19_6, G19_7, G19_8, G19_9⟩ := q19
  have F20 := F4.keep K19
  have F21 := F11.keep K19 (ninS (Ne.symm nq0) (ninS nq10 (ninS nq6 (ninS nq7 nin0))))
  have F22 := F15.keep K19 (ninS nq21 (ninS nq27 (ninS nq23 (ninS nq24 nin0))))
  have F23 := F16.trans K19 (allS (Or.inl (List.mem_of_getElem? (i := 0) rfl)) (allS (Or.inl (List.mem_of_getElem? (i := 1) rfl)) (allS (Or.inl (List.mem_of_getElem? (i := 2) rfl)) (allS (Or.inl (List.mem_of_getElem? (i := 3) rfl)) all0))))
  have Z24 : n0 ≤ h19.size := Nat.le_trans Z18 K19.1
  show Own.Go p e below s n0 _ _ _ (T19.setTop (mkF m 24 _ []))
  clear F10 F11 F12 F13 F14 F15 F16 F17 F4 F5 F6 F7 F8 F9 X3
  refine Own.iload X19 d3_24 rfl ?_
  refine Own.iff_ X19 (pc' := 43) d3_26 (by decide) (fun q => absurd (show (2 : Int) = (0 : Int) from q) (show ¬ ((2 : Int) = (0 : Int)) from by decide)) (fun _ => ?_)
  refine Own.dloadN X19 d3_29 rfl ?_
  refine Own.aloadN X19 d3_30 rfl rfl ?_
  refine Own.getF_ X19 d3_31 (host := "") (Or.inl (Own.wd hw 15 rfl)) Via.refl G19_1 fun T25 X25 => ?_
  clear X19
  refine Own.aloadN X25 d3_34 rfl rfl ?_
  refine Own.getF_ X25 d3_35 (host := "") (Or.inl (Own.wd hw 37 rfl)) Via.refl G19_5 fun T26 X26 => ?_
  clear X25
  refine Own.daload_ X26 d3_38 G19_8 (by decide) rfl ?_
  refine Own.dcmpF X26 (pc' := 49) d3_39 d3_40 (by decide) n_dv n_b1 (fun _ => ?_) (fun q => absurd (show Own.dz dv ≤ Own.dz b1 from by omega) q)
  refine Own.iload X26 d3_49 rfl ?_
  refine Own.iff_ X26 (pc' := 68) d3_51 (by decide) (fun q => absurd (show (2 : Int) = (0 : Int) from q) (show ¬ ((2 : Int) = (0 : Int)) from by decide)) (fun _ => ?_)
  refine Own.dloadN X26 d3_54 rfl ?_
  refine Own.aloadN X26 d3_55 rfl rfl ?_
  refine Own.getF_ X26 d3_56 (host := "") (Or.inl (Own.wd hw 15 rfl)) Via.refl G19_1 fun T27 X27 => ?_
  clear X26
  refine Own.aloadN X27 d3_59 rfl rfl ?_
  refine Own.getF_ X27 d3_60 (host := "") (Or.inl (Own.wd hw 39 rfl)) Via.refl G19_6 fun T28 X28 => ?_
  clear X27
  refine Own.daload_ X28 d3_63 G19_8 (by decide) rfl ?_
  refine Own.dcmpF X28 (pc' := 74) d3_64 d3_65 (by decide) n_dv n_b0 (fun _ => ?_) (fun q => absurd (show Own.dz b0 ≤ Own.dz dv from by omega) q)
  exact Own.retV X28 d3_74 ⟨rfl, F23, G19_0, G19_1, G19_2, G19_3, G19_4, G19_5, G19_6, G19_7, G19_8, G19_9⟩ (by decide) (by decide)
theorem ef_3_10001 (m : MethodId) (x0 : Addr) (x1 : Addr) (x2 : UInt64) : entryFrame m #[.ref x0, .ref x1, .double x2] 5 = mkF m 0 #[.val (.ref x0), .val (.ref x1), .val (.double x2), .second, .unset] [] := by first | (simp [entryFrame, mkF, argsToLocals, Value.category, maxLocals]; done) | rfl
set_option maxRecDepth 65536 in
set_option maxHeartbeats 40000000 in
theorem rm3_10001 (l : Launch) (Z : State) (a0 : Array Value) (hw : ∀ d ∈ tables_1, d.before a0 Z = true) (a : Addr) (si : Addr) (dv : UInt64) (pl : Addr) (oa : Addr) (na : Addr) (x0 : Addr) (x1 : Addr) (x2 : Addr) (k_pl : ClassId) (c_pl : ClassId) (k_oa : ClassId) (k_na : ClassId) (b0 : UInt64) (b1 : UInt64) (b2 : UInt64) (m0 : Int64) (m1 : Int64) (m2 : Int64) (eJ : Int64) (k_si : ClassId) (y0 : Int32) (u10 : Int32) (h0 : Heap) (n0 : Nat) (Z0 : n0 ≤ h0.size) (fc0 : Exa Z h0 a "com/example/allocus/allocus/method/Population") (fc1 : Fld Z h0 a "com/example/allocus/allocus/method/Population" "plans" "[[I" (.ref pl)) (fc2 : Fld Z h0 a "com/example/allocus/allocus/method/Population" "objectives" "[D" (.ref oa)) (fc3 : Fld Z h0 a "com/example/allocus/allocus/method/Population" "entered" "[J" (.ref na)) (fc4 : Fld Z h0 a "com/example/allocus/allocus/method/Population" "count" "I" (.int (1 : Int32))) (fc5 : Fld Z h0 a "com/example/allocus/allocus/method/Population" "entries" "J" (.long eJ)) (fc6 : Fld Z h0 a "com/example/allocus/allocus/method/Population" "worst" "I" (.int (0 : Int32))) (fc7 : Fld Z h0 a "com/example/allocus/allocus/method/Population" "best" "I" (.int (0 : Int32))) (fc8 : Arv Z h0 pl k_pl (.array .int) (3 : Int32) [.ref x0, .ref x1, .ref x2] (.null)) (fc9 : Arv Z h0 x1 c_pl .int (1 : Int32) [.int u10] (.int (0 : Int32))) (fc10 : Arv Z h0 oa k_oa .double (3 : Int32) [.double b0, .double b1, .double b2] (.double 0)) (fc11 : Arv Z h0 na k_na .long (3 : Int32) [.long m0, .long m1, .long m2] (.long (0 : Int64))) (fc12 : Arv Z h0 si k_si .int (1 : Int32) [.int y0] (.int (0 : Int32))) (nq0 : a ≠ pl) (nq1 : a ≠ oa) (nq2 : a ≠ na) (nq3 : a ≠ x0) (nq4 : a ≠ x1) (nq5 : a ≠ x2) (nq6 : pl ≠ oa) (nq7 : pl ≠ na) (nq8 : pl ≠ x0) (nq9 : pl ≠ x1) (nq10 : pl ≠ x2) (nq11 : oa ≠ na) (nq12 : oa ≠ x0) (nq13 : oa ≠ x1) (nq14 : oa ≠ x2) (nq15 : na ≠ x0) (nq16 : na ≠ x1) (nq17 : na ≠ x2) (nq18 : x0 ≠ x1) (nq19 : x0 ≠ x2) (nq20 : x1 ≠ x2) (nq21 : si ≠ a) (nq22 : si ≠ pl) (nq23 : si ≠ oa) (nq24 : si ≠ na) (nq25 : si ≠ x0) (nq26 : si ≠ x1) (nq27 : si ≠ x2) (fq0 : n0 ≤ a) (fq1 : n0 ≤ x0) (fq2 : n0 ≤ x1) (fq3 : n0 ≤ x2) (fq4 : n0 ≤ oa) (fq5 : n0 ≤ na) (n_dv : NoNaN64 dv) (n_b0 : NoNaN64 b0) (c1 : Own.dz dv ≤ Own.dz b0) (c2 : Own.dz dv < Own.dz b0) :
    Own.Con l Z mn_3 [] prog_48_method_5_code 5 none ({ frames := 2, cells := 0, slots := 0, locals := 48 } : Room) #[.ref a, .ref si, .double dv] h0 n0 (fun v h => v = none ∧ Keep h0 h [a, x1, oa, na] ∧ Fld Z h a "com/example/allocus/allocus/method/Population" "plans" "[[I" (.ref pl) ∧ Fld Z h a "com/example/allocus/allocus/method/Population" "objectives" "[D" (.ref oa) ∧ Fld Z h a "com/example/allocus/allocus/method/Population" "entered" "[J" (.ref na) ∧ Fld Z h a "com/example/allocus/allocus/method/Population" "count" "I" (.int (2 : Int32)) ∧ Fld Z h a "com/example/allocus/allocus/method/Population" "entries" "J" (.long (eJ + (1 : Int64))) ∧ Fld Z h a "com/example/allocus/allocus/method/Population" "worst" "I" (.int (0 : Int32)) ∧ Fld Z h a "com/example/allocus/allocus/method/Population" "best" "I" (.int (1 : Int32)) ∧ Arv Z h x1 c_pl .int (1 : Int32) [.int y0] (.int (0 : Int32)) ∧ Arv Z h oa k_oa .double (3 : Int32) [.double b0, .double dv, .double b2] (.double 0) ∧ Arv Z h na k_na .long (3 : Int32) [.long m0, .long eJ, .long m2] (.long (0 : Int64))) := by
  refine Own.enter (own := "com/example/allocus/allocus/method/Population") (nm := "add") (plainFor_of_name pn_com_example_allocus_allocus_method_Population) rfl rfl (fun m => ef_3_10001 m a si dv) fun p e s m below meth c T X => ?_
  refine Own.aloadN X d3_0 rfl rfl ?_
  refine Own.getF_ X d3_1 (host := "") (Or.inl (Own.wd hw 25 rfl)) Via.refl fc4 fun T1 X1 => ?_
  clear X
  refine Own.istore X1 d3_4 (l' := #[.val (.ref a), .val (.ref si), .val (.double dv), .second, .val (.int (1 : Int32))]) rfl ?_
  refine Own.aloadN X1 d3_6 rfl rfl ?_
  refine Own.dup X1 d3_7 rfl ?_
  refine Own.getF_ X1 d3_8 (host := "") (Or.inl (Own.wd hw 25 rfl)) Via.refl fc4 fun T2 X2 => ?_
  clear X1
  refine Own.iconst X2 (v := 1) d3_11 rfl ?_
  refine Own.iadd X2 d3_12 ?_
  show Own.Go p e below s n0 _ _ _ (T2.setTop (mkF m 13 _ [.int (2 : Int32), .ref a]))
  refine Own.putF_ X2 d3_13 (host := "") (Or.inl (Own.wd hw 25 rfl)) Via.refl fc4 fc0 (Or.inl (Own.wd hw 26 rfl)) (Own.wd hw 2 rfl) (ty := .int) (by decide) rfl rfl fq0 fun T3 h3 X3 W3 => ?_
  have F4 := fc0.wr W3
  have F5 := fc1.other W3 (Or.inr (slot_ne (Or.inr (Own.wd hw 13 rfl)) (Or.inl (Own.wd hw 26 rfl)) (by decide) (t := (.array (.array .int))) (t' := .int) (by decide) (by decide)))
  have F6 := fc2.other W3 (Or.inr (slot_ne (Or.inr (Own.wd hw 16 rfl)) (Or.inl (Own.wd hw 26 rfl)) (by decide) (t := (.array .double)) (t' := .int) (by decide) (by decide)))
  have F7 := fc3.other W3 (Or.inr (slot_ne (Or.inr (Own.wd hw 19 rfl)) (Or.inl (Own.wd hw 26 rfl)) (by decide) (t := (.array .long)) (t' := .int) (by decide) (by decide)))
  have F8 := fc5.other W3 (Or.inr (slot_ne (Or.inl (Own.wd hw 36 rfl)) (Or.inl (Own.wd hw 26 rfl)) (by decide) (t := .long) (t' := .int) (by decide) (by decide)))
  have F9 := fc6.other W3 (Or.inr (slot_ne (Or.inl (Own.wd hw 38 rfl)) (Or.inl (Own.wd hw 26 rfl)) (by decide) (t := .int) (t' := .int) (by decide) (by decide)))
  have F10 := fc7.other W3 (Or.inr (slot_ne (Or.inl (Own.wd hw 40 rfl)) (Or.inl (Own.wd hw 26 rfl)) (by decide) (t := .int) (t' := .int) (by decide) (by decide)))
  have F11 := fc8.other W3 (Ne.symm nq0)
  have F12 := fc9.other W3 (Ne.symm nq4)
  have F13 := fc10.other W3 (Ne.symm nq1)
  have F14 := fc11.other W3 (Ne.symm nq2)
  have F15 := fc12.other W3 nq21
  have F16 := (Keep.refl h0 [a, x1, oa, na]).wr W3 (Or.inl (List.mem_of_getElem? (i := 0) rfl))
  have F17 : Fld Z h3 a "com/example/allocus/allocus/method/Population" "count" "I" (.int (2 : Int32)) := Fld.same W3 fc4
  have Z18 : n0 ≤ h3.size := by rw [W3.size]; exact Z0
  clear X2 fc0 fc1 fc10 fc11 fc12 fc2 fc3 fc4 fc5 fc6 fc7 fc8 fc9
  refine Own.aloadN X3 d3_16 rfl rfl ?_
  refine Own.iload X3 d3_17 rfl ?_
  refine Own.aloadN X3 d3_19 rfl rfl ?_
  refine Own.dloadN X3 d3_20 rfl ?_
  refine Own.callP_ (y := mn_1) (D := "com/example/allocus/allocus/method/Population") (z' := mn_3) (z := mn_3) (a := a) X3 d3_21 (Own.wd hw 27 rfl) (Own.wd hw 28 rfl) (Own.wd hw 23 rfl) rfl (Own.wd hw 29 rfl) (Own.wd hw 3 rfl) (Own.wd hw 30 rfl) (by decide) F4 (rm4_1 l Z a0 hw a si dv pl oa na x0 x1 x2 k_pl c_pl k_oa k_na b0 b1 b2 m0 m1 m2 eJ k_si y0 u10 (2 : Int32) (0 : Int32) (0 : Int32) h3 n0 Z18 F4 F5 F6 F7 F17 F8 F9 F10 F11 F12 F13 F14 F15 nq0 nq1 nq2 nq3 nq4 nq5 nq6 nq7 nq8 nq9 nq10 nq11 nq12 nq13 nq14 nq15 nq16 nq17 nq18 nq19 nq20 nq21 nq22 nq23 nq24 nq25 nq26 nq27 fq0 fq1 fq2 fq3 fq4 fq5 ) (lenOf pd_2 rfl) rfl (argsL := [.int (1 : Int32), .ref si, .double dv]) (rest := []) rfl (W := 0) (Nat.le_of_eq rfl) (by decide) (by decide) (by decide) (by decide) fun T19 h19 v19 X19 q19 => ?_
  obtain ⟨rfl, K19, G19_0, G19_1, G19_2, G19_3, G19_4, G19_5, G19_6, G19_7, G19_8, G19_9⟩ := q19
  have F20 := F4.keep K19
  have F21 := F11.keep K19 (ninS (Ne.symm nq0) (ninS nq9 (ninS nq6 (ninS nq7 nin0))))
  have F22 := F15.keep K19 (ninS nq21 (ninS nq26 (ninS nq23 (ninS nq24 nin0))))
  have F23 := F16.trans K19 (allS (Or.inl (List.mem_of_getElem? (i := 0) rfl)) (allS (Or.inl (List.mem_of_getElem? (i := 1) rfl)) (allS (Or.inl (List.mem_of_getElem? (i := 2) rfl)) (allS (Or.inl (List.mem_of_getElem? (i := 3) rfl)) all0))))
  have Z24 : n0 ≤ h19.size := Nat.le_trans Z18 K19.1
  show Own.Go p e below s n0 _ _ _ (T19.setTop (mkF m 24 _ []))
  clear F10 F11 F12 F13 F14 F15 F16 F17 F4 F5 F6 F7 F8 F9 X3
  refine Own.iload X19 d3_24 rfl ?_
  refine Own.iff_ X19 (pc' := 43) d3_26 (by decide) (fun q => absurd (show (1 : Int) = (0 : Int) from q) (show ¬ ((1 : Int) = (0 : Int)) from by decide)) (fun _ => ?_)
  refine Own.dloadN X19 d3_29 rfl ?_
  refine Own.aloadN X19 d3_30 rfl rfl ?_
  refine Own.getF_ X19 d3_31 (host := "") (Or.inl (Own.wd hw 15 rfl)) Via.refl G19_1 fun T25 X25 => ?_
  clear X19
  refine Own.aloadN X25 d3_34 rfl rfl ?_
  refine Own.getF_ X25 d3_35 (host := "") (Or.inl (Own.wd hw 37 rfl)) Via.refl G19_5 fun T26 X26 => ?_
  clear X25
  refine Own.daload_ X26 d3_38 G19_8 (by decide) rfl ?_
  refine Own.dcmpF X26 (pc' := 49) d3_39 d3_40 (by decide) n_dv n_b0 (fun _ => ?_) (fun q => absurd (show Own.dz dv ≤ Own.dz b0 from by omega) q)
  refine Own.iload X26 d3_49 rfl ?_
  refine Own.iff_ X26 (pc' := 68) d3_51 (by decide) (fun q => absurd (show (1 : Int) = (0 : Int) from q) (show ¬ ((1 : Int) = (0 : Int)) from by decide)) (fun _ => ?_)
  refine Own.dloadN X26 d3_54 rfl ?_
  refine Own.aloadN X26 d3_55 rfl rfl ?_
  refine Own.getF_ X26 d3_56 (host := "") (Or.inl (Own.wd hw 15 rfl)) Via.refl G19_1 fun T27 X27 => ?_
  clear X26
  refine Own.aloadN X27 d3_59 rfl rfl ?_
  refine Own.getF_ X27 d3_60 (host := "") (Or.inl (Own.wd hw 39 rfl)) Via.refl G19_6 fun T28 X28 => ?_
  clear X27
  refine Own.daload_ X28 d3_63 G19_8 (by decide) rfl ?_
  refine Own.dcmpF X28 (pc' := 74) d3_64 d3_65 (by decide) n_dv n_b0 (fun q => absurd (show Own.dz b0 ≤ Own.dz dv from q) (show ¬ (Own.dz b0 ≤ Own.dz dv) from by omega)) (fun _ => ?_)
  refine Own.aloadN X28 d3_68 rfl rfl ?_
  refine Own.iload X28 d3_69 rfl ?_
  refine Own.putF_ X28 d3_71 (host := "") (Or.inl (Own.wd hw 39 rfl)) Via.refl G19_6 F20 (Or.inl (Own.wd hw 40 rfl)) (Own.wd hw 2 rfl) (ty := .int) (by decide) rfl rfl fq0 fun T29 h29 X29 W29 => ?_
  have F30 := F20.wr W29
  have F31 := F21.other W29 (Ne.symm nq0)
  have F32 := F22.other W29 nq21
  have F33 := F23.wr W29 (Or.inl (List.mem_of_getElem? (i := 0) rfl))
  have F34 := G19_0.other W29 (Or.inr (slot_ne (Or.inr (Own.wd hw 13 rfl)) (Or.inl (Own.wd hw 40 rfl)) (by decide) (t := (.array (.array .int))) (t' := .int) (by decide) (by decide)))
  have F35 := G19_1.other W29 (Or.inr (slot_ne (Or.inr (Own.wd hw 16 rfl)) (Or.inl (Own.wd hw 40 rfl)) (by decide) (t := (.array .double)) (t' := .int) (by decide) (by decide)))
  have F36 := G19_2.other W29 (Or.inr (slot_ne (Or.inr (Own.wd hw 19 rfl)) (Or.inl (Own.wd hw 40 rfl)) (by decide) (t := (.array .long)) (t' := .int) (by decide) (by decide)))
  have F37 := G19_3.other W29 (Or.inr (slot_ne (Or.inl (Own.wd hw 26 rfl)) (Or.inl (Own.wd hw 40 rfl)) (by decide) (t := .int) (t' := .int) (by decide) (by decide)))
  have F38 := G19_4.other W29 (Or.inr (slot_ne (Or.inl (Own.wd hw 36 rfl)) (Or.inl (Own.wd hw 40 rfl)) (by decide) (t := .long) (t' := .int) (by decide) (by decide)))
  have F39 := G19_5.other W29 (Or.inr (slot_ne (Or.inl (Own.wd hw 38 rfl)) (Or.inl (Own.wd hw 40 rfl)) (by decide) (t := .int) (t' := .int) (by decide) (by decide)))
  have F40 := G19_7.other W29 (Ne.symm nq4)
  have F41 := G19_8.other W29 (Ne.symm nq1)
  have F42 := G19_9.other W29 (Ne.symm nq2)
  have F43 : Fld Z h29 a "com/example/allocus/allocus/method/Population" "best" "I" (.int (1 : Int32)) := Fld.same W29 G19_6
  have Z44 : n0 ≤ h29.size := by rw [W29.size]; exact Z24
  clear F20 F21 F22 F23 G19_0 G19_1 G19_2 G19_3 G19_4 G19_5 G19_6 G19_7 G19_8 G19_9 X28
  exact Own.retV X29 d3_74 ⟨rfl, F33, F34, F35, F36, F37, F38, F39, F43, F40, F41, F42⟩ (by decide) (by decide)
theorem ef_3_20121 (m : MethodId) (x0 : Addr) (x1 : Addr) (x2 : UInt64) : entryFrame m #[.ref x0, .ref x1, .double x2] 5 = mkF m 0 #[.val (.ref x0), .val (.ref x1), .val (.double x2), .second, .unset] [] := by first | (simp [entryFrame, mkF, argsToLocals, Value.category, maxLocals]; done) | rfl
set_option maxRecDepth 65536 in
set_option maxHeartbeats 40000000 in
theorem rm3_20121 (l : Launch) (Z : State) (a0 : Array Value) (hw : ∀ d ∈ tables_1, d.before a0 Z = true) (a : Addr) (si : Addr) (dv : UInt64) (pl : Addr) (oa : Addr) (na : Addr) (x0 : Addr) (x1 : Addr) (x2 : Addr) (k_pl : ClassId) (c_pl : ClassId) (k_oa : ClassId) (k_na : ClassId) (b0 : UInt64) (b1 : UInt64) (b2 : UInt64) (m0 : Int64) (m1 : Int64) (m2 : Int64) (eJ : Int64) (k_si : ClassId) (y0 : Int32) (u20 : Int32) (h0 : Heap) (n0 : Nat) (Z0 : n0 ≤ h0.size) (fc0 : Exa Z h0 a "com/example/allocus/allocus/method/Population") (fc1 : Fld Z h0 a "com/example/allocus/allocus/method/Population" "plans" "[[I" (.ref pl)) (fc2 : Fld Z h0 a "com/example/allocus/allocus/method/Population" "objectives" "[D" (.ref oa)) (fc3 : Fld Z h0 a "com/example/allocus/allocus/method/Population" "entered" "[J" (.ref na)) (fc4 : Fld Z h0 a "com/example/allocus/allocus/method/Population" "count" "I" (.int (2 : Int32))) (fc5 : Fld Z h0 a "com/example/allocus/allocus/method/Population" "entries" "J" (.long eJ)) (fc6 : Fld Z h0 a "com/example/allocus/allocus/method/Population" "worst" "I" (.int (0 : Int32))) (fc7 : Fld Z h0 a "com/example/allocus/allocus/method/Population" "best" "I" (.int (1 : Int32))) (fc8 : Arv Z h0 pl k_pl (.array .int) (3 : Int32) [.ref x0, .ref x1, .ref x2] (.null)) (fc9 : Arv Z h0 x2 c_pl .int (1 : Int32) [.int u20] (.int (0 : Int32))) (fc10 : Arv Z h0 oa k_oa .double (3 : Int32) [.double b0, .double b1, .double b2] (.double 0)) (fc11 : Arv Z h0 na k_na .long (3 : Int32) [.long m0, .long m1, .long m2] (.long (0 : Int64))) (fc12 : Arv Z h0 si k_si .int (1 : Int32) [.int y0] (.int (0 : Int32))) (nq0 : a ≠ pl) (nq1 : a ≠ oa) (nq2 : a ≠ na) (nq3 : a ≠ x0) (nq4 : a ≠ x1) (nq5 : a ≠ x2) (nq6 : pl ≠ oa) (nq7 : pl ≠ na) (nq8 : pl ≠ x0) (nq9 : pl ≠ x1) (nq10 : pl ≠ x2) (nq11 : oa ≠ na) (nq12 : oa ≠ x0) (nq13 : oa ≠ x1) (nq14 : oa ≠ x2) (nq15 : na ≠ x0) (nq16 : na ≠ x1) (nq17 : na ≠ x2) (nq18 : x0 ≠ x1) (nq19 : x0 ≠ x2) (nq20 : x1 ≠ x2) (nq21 : si ≠ a) (nq22 : si ≠ pl) (nq23 : si ≠ oa) (nq24 : si ≠ na) (nq25 : si ≠ x0) (nq26 : si ≠ x1) (nq27 : si ≠ x2) (fq0 : n0 ≤ a) (fq1 : n0 ≤ x0) (fq2 : n0 ≤ x1) (fq3 : n0 ≤ x2) (fq4 : n0 ≤ oa) (fq5 : n0 ≤ na) (n_dv : NoNaN64 dv) (n_b0 : NoNaN64 b0) (n_b1 : NoNaN64 b1) (c1 : Own.dz b0 < Own.dz dv) (c2 : Own.dz b1 ≤ Own.dz dv) :
    Own.Con l Z mn_3 [] prog_48_method_5_code 5 none ({ frames := 2, cells := 0, slots := 0, locals := 48 } : Room) #[.ref a, .ref si, .double dv] h0 n0 (fun v h => v = none ∧ Keep h0 h [a, x2, oa, na] ∧ Fld Z h a "com/example/allocus/allocus/method/Population" "plans" "[[I" (.ref pl) ∧ Fld Z h a "com/example/allocus/allocus/method/Population" "objectives" "[D" (.ref oa) ∧ Fld Z h a "com/example/allocus/allocus/method/Population" "entered" "[J" (.ref na) ∧ Fld Z h a "com/example/allocus/allocus/method/Population" "count" "I" (.int (3 : Int32)) ∧ Fld Z h a "com/example/allocus/allocus/method/Population" "entries" "J" (.long (eJ + (1 : Int64))) ∧ Fld Z h a "com/example/allocus/allocus/method/Population" "worst" "I" (.int (2 : Int32)) ∧ Fld Z h a "com/example/allocus/allocus/method/Population" "best" "I" (.int (1 : Int32)) ∧ Arv Z h x2 c_pl .int (1 : Int32) [.int y0] (.int (0 : Int32)) ∧ Arv Z h oa k_oa .double (3 : Int32) [.double b0, .double b1, .double dv] (.double 0) ∧ Arv Z h na k_na .long (3 : Int32) [.long m0, .long m1, .long eJ] (.long (0 : Int64))) := by
  refine Own.enter (own := "com/example/allocus/allocus/method/Population") (nm := "add") (plainFor_of_name pn_com_example_allocus_allocus_method_Population) rfl rfl (fun m => ef_3_20121 m a si dv) fun p e s m below meth c T X => ?_
  refine Own.aloadN X d3_0 rfl rfl ?_
  refine Own.getF_ X d3_1 (host := "") (Or.inl (Own.wd hw 25 rfl)) Via.refl fc4 fun T1 X1 => ?_
  clear X
  refine Own.istore X1 d3_4 (l' := #[.val (.ref a), .val (.ref si), .val (.double dv), .second, .val (.int (2 : Int32))]) rfl ?_
  refine Own.aloadN X1 d3_6 rfl rfl ?_
  refine Own.dup X1 d3_7 rfl ?_
  refine Own.getF_ X1 d3_8 (host := "") (Or.inl (Own.wd hw 25 rfl)) Via.refl fc4 fun T2 X2 => ?_
  clear X1
  refine Own.iconst X2 (v := 1) d3_11 rfl ?_
  refine Own.iadd X2 d3_12 ?_
  show Own.Go p e below s n0 _ _ _ (T2.setTop (mkF m 13 _ [.int (3 : Int32), .ref a]))
  refine Own.putF_ X2 d3_13 (host := "") (Or.inl (Own.wd hw 25 rfl)) Via.refl fc4 fc0 (Or.inl (Own.wd hw 26 rfl)) (Own.wd hw 2 rfl) (ty := .int) (by decide) rfl rfl fq0 fun T3 h3 X3 W3 => ?_
  have F4 := fc0.wr W3
  have F5 := fc1.other W3 (Or.inr (slot_ne (Or.inr (Own.wd hw 13 rfl)) (Or.inl (Own.wd hw 26 rfl)) (by decide) (t := (.array (.array .int))) (t' := .int) (by decide) (by decide)))
  have F6 := fc2.other W3 (Or.inr (slot_ne (Or.inr (Own.wd hw 16 rfl)) (Or.inl (Own.wd hw 26 rfl)) (by decide) (t := (.array .double)) (t' := .int) (by decide) (by decide)))
  have F7 := fc3.other W3 (Or.inr (slot_ne (Or.inr (Own.wd hw 19 rfl)) (Or.inl (Own.wd hw 26 rfl)) (by decide) (t := (.array .long)) (t' := .int) (by decide) (by decide)))
  have F8 := fc5.other W3 (Or.inr (slot_ne (Or.inl (Own.wd hw 36 rfl)) (Or.inl (Own.wd hw 26 rfl)) (by decide) (t := .long) (t' := .int) (by decide) (by decide)))
  have F9 := fc6.other W3 (Or.inr (slot_ne (Or.inl (Own.wd hw 38 rfl)) (Or.inl (Own.wd hw 26 rfl)) (by decide) (t := .int) (t' := .int) (by decide) (by decide)))
  have F10 := fc7.other W3 (Or.inr (slot_ne (Or.inl (Own.wd hw 40 rfl)) (Or.inl (Own.wd hw 26 rfl)) (by decide) (t := .int) (t' := .int) (by decide) (by decide)))
  have F11 := fc8.other W3 (Ne.symm nq0)
  have F12 := fc9.other W3 (Ne.symm nq5)
  have F13 := fc10.other W3 (Ne.symm nq1)
  have F14 := fc11.other W3 (Ne.symm nq2)
  have F15 := fc12.other W3 nq21
  have F16 := (Keep.refl h0 [a, x2, oa, na]).wr W3 (Or.inl (List.mem_of_getElem? (i := 0) rfl))
  have F17 : Fld Z h3 a "com/example/allocus/allocus/method/Population" "count" "I" (.int (3 : Int32)) := Fld.same W3 fc4
  have Z18 : n0 ≤ h3.size := by rw [W3.size]; exact Z0
  clear X2 fc0 fc1 fc10 fc11 fc12 fc2 fc3 fc4 fc5 fc6 fc7 fc8 fc9
  refine Own.aloadN X3 d3_16 rfl rfl ?_
  refine Own.iload X3 d3_17 rfl ?_
  refine Own.aloadN X3 d3_19 rfl rfl ?_
  refine Own.dloadN X3 d3_20 rfl ?_
  refine Own.callP_ (y := mn_1) (D := "com/example/allocus/allocus/method/Population") (z' := mn_3) (z := mn_3) (a := a) X3 d3_21 (Own.wd hw 27 rfl) (Own.wd hw 28 rfl) (Own.wd hw 23 rfl) rfl (Own.wd hw 29 rfl) (Own.wd hw 3 rfl) (Own.wd hw 30 rfl) (by decide) F4 (rm4_2 l Z a0 hw a si dv pl oa na x0 x1 x2 k_pl c_pl k_oa k_na b0 b1 b2 m0 m1 m2 eJ k_si y0 u20 (3 : Int32) (0 : Int32) (1 : Int32) h3 n0 Z18 F4 F5 F6 F7 F17 F8 F9 F10 F11 F12 F13 F14 F15 nq0 nq1 nq2 nq3 nq4 nq5 nq6 nq7 nq8 nq9 nq10 nq11 nq12 nq13 nq14 nq15 nq16 nq17 nq18 nq19 nq20 nq21 nq22 nq23 nq24 nq25 nq26 nq27 fq0 fq1 fq2 fq3 fq4 fq5 ) (lenOf pd_2 rfl) rfl (argsL := [.int (2 : Int32), .ref si, .double dv]) (rest := []) rfl (W := 0) (Nat.le_of_eq rfl) (by decide) (by decide) (by decide) (by decide) fun T19 h19 v19 X19 q19 => ?_
  obtain ⟨rfl, K19, G19_0, G19_1, G19_2, G19_3, G19_4, G19_5, G19_6, G19_7, G19_8, G19_9⟩ := q19
  have F20 := F4.keep K19
  have F21 := F11.keep K19 (ninS (Ne.symm nq0) (ninS nq10 (ninS nq6 (ninS nq7 nin0))))
  have F22 := F15.keep K19 (ninS nq21 (ninS nq27 (ninS nq23 (ninS nq24 nin0))))
  have F23 := F16.trans K19 (allS (Or.inl (List.mem_of_getElem? (i := 0) rfl)) (allS (Or.inl (List.mem_of_getElem? (i := 1) rfl)) (allS (Or.inl (List.mem_of_getElem? (i := 2) rfl)) (allS (Or.inl (List.mem_of_getElem? (i := 3) rfl)) all0))))
  have Z24 : n0 ≤ h19.size := Nat.le_trans Z18 K19.1
  show Own.Go p e below s n0 _ _ _ (T19.setTop (mkF m 24 _ []))
  clear F10 F11 F12 F13 F14 F15 F16 F17 F4 F5 F6 F7 F8 F9 X3
  refine Own.iload X19 d3_24 rfl ?_
  refine Own.iff_ X19 (pc' := 43) d3_26 (by decide) (fun q => absurd (show (2 : Int) = (0 : Int) from q) (show ¬ ((2 : Int) = (0 : Int)) from by decide)) (fun _ => ?_)
  refine Own.dloadN X19 d3_29 rfl ?_
  refine Own.aloadN X19 d3_30 rfl rfl ?_
  refine Own.getF_ X19 d3_31 (host := "") (Or.inl (Own.wd hw 15 rfl)) Via.refl G19_1 fun T25 X25 => ?_
  clear X19
  refine Own.aloadN X25 d3_34 rfl rfl ?_
  refine Own.getF_ X25 d3_35 (host := "") (Or.inl (Own.wd hw 37 rfl)) Via.refl G19_5 fun T26 X26 => ?_
  clear X25
  refine Own.daload_ X26 d3_38 G19_8 (by decide) rfl ?_
  refine Own.dcmpF X26 (pc' := 49) d3_39 d3_40 (by decide) n_dv n_b0 (fun q => absurd (show Own.dz dv ≤ Own.dz b0 from q) (show ¬ (Own.dz dv ≤ Own.dz b0) from by omega)) (fun _ => ?_)
  refine Own.aloadN X26 d3_43 rfl rfl ?_
  refine Own.iload X26 d3_44 rfl ?_
  refine Own.putF_ X26 d3_46 (host := "") (Or.inl (Own.wd hw 37 rfl)) Via.refl G19_5 F20 (Or.inl (Own.wd hw 38 rfl)) (Own.wd hw 2 rfl) (ty := .int) (by decide) rfl rfl fq0 fun T27 h27 X27 W27 => ?_
  have F28 := F20.wr W27
  have F29 := F21.other W27 (Ne.symm nq0)
  have F30 := F22.other W27 nq21
  have F31 := F23.wr W27 (Or.inl (List.mem_of_getElem? (i := 0) rfl))
  have F32 := G19_0.other W27 (Or.inr (slot_ne (Or.inr (Own.wd hw 13 rfl)) (Or.inl (Own.wd hw 38 rfl)) (by decide) (t := (.array (.array .int))) (t' := .int) (by decide) (by decide)))
  have F33 := G19_1.other W27 (Or.inr (slot_ne (Or.inr (Own.wd hw 16 rfl)) (Or.inl (Own.wd hw 38 rfl)) (by decide) (t := (.array .double)) (t' := .int) (by decide) (by decide)))
  have F34 := G19_2.other W27 (Or.inr (slot_ne (Or.inr (Own.wd hw 19 rfl)) (Or.inl (Own.wd hw 38 rfl)) (by decide) (t := (.array .long)) (t' := .int) (by decide) (by decide)))
  have F35 := G19_3.other W27 (Or.inr (slot_ne (Or.inl (Own.wd hw 26 rfl)) (Or.inl (Own.wd hw 38 rfl)) (by decide) (t := .int) (t' := .int) (by decide) (by decide)))
  have F36 := G19_4.other W27 (Or.inr (slot_ne (Or.inl (Own.wd hw 36 rfl)) (Or.inl (Own.wd hw 38 rfl)) (by decide) (t := .long) (t' := .int) (by decide) (by decide)))
  have F37 := G19_6.other W27 (Or.inr (slot_ne (Or.inl (Own.wd hw 40 rfl)) (Or.inl (Own.wd hw 38 rfl)) (by decide) (t := .int) (t' := .int) (by decide) (by decide)))
  have F38 := G19_7.other W27 (Ne.symm nq5)
  have F39 := G19_8.other W27 (Ne.symm nq1)
  have F40 := G19_9.other W27 (Ne.symm nq2)
  have F41 : Fld Z h27 a "com/example/allocus/allocus/method/Population" "worst" "I" (.int (2 : Int32)) := Fld.same W27 G19_5
  have Z42 : n0 ≤ h27.size := by rw [W27.size]; exact Z24
  clear F20 F21 F22 F23 G19_0 G19_1 G19_2 G19_3 G19_4 G19_5 G19_6 G19_7 G19_8 G19_9 X26
  refine Own.iload X27 d3_49 rfl ?_
  refine Own.iff_ X27 (pc' := 68) d3_51 (by decide) (fun q => absurd (show (2 : Int) = (0 : Int) from q) (show ¬ ((2 : Int) = (0 : Int)) from by decide)) (fun _ => ?_)
  refine Own.dloadN X27 d3_54 rfl ?_
  refine Own.aloadN X27 d3_55 rfl rfl ?_
  refine Own.getF_ X27 d3_56 (host := "") (Or.inl (Own.wd hw 15 rfl)) Via.refl F33 fun T43 X43 => ?_
  clear X27
  refine Own.aloadN X43 d3_59 rfl rfl ?_
  refine Own.getF_ X43 d3_60 (host := "") (Or.inl (Own.wd hw 39 rfl)) Via.refl F37 fun T44 X44 => ?_
  clear X43
  refine Own.daload_ X44 d3_63 F39 (by decide) rfl ?_
  refine Own.dcmpF X44 (pc' := 74) d3_64 d3_65 (by decide) n_dv n_b1 (fun _ => ?_) (fun q => absurd (show Own.dz b1 ≤ Own.dz dv from by omega) q)
  exact Own.retV X44 d3_74 ⟨rfl, F31, F32, F33, F34, F35, F36, F41, F37, F38, F39, F40⟩ (by decide) (by decide)
theorem ef_3_20102 (m : MethodId) (x0 : Addr) (x1 : Addr) (x2 : UInt64) : entryFrame m #[.ref x0, .ref x1, .double x2] 5 = mkF m 0 #[.val (.ref x0), .val (.ref x1), .val (.double x2), .second, .unset] [] := by first | (simp [entryFrame, mkF, argsToLocals, Value.category, maxLocals]; done) | rfl
set_option maxRecDepth 65536 in
set_option maxHeartbeats 40000000 in
theorem rm3_20102 (l : Launch) (Z : State) (a0 : Array Value) (hw : ∀ d ∈ tables_1, d.before a0 Z = true) (a : Addr) (si : Addr) (dv : UInt64) (pl : Addr) (oa : Addr) (na : Addr) (x0 : Addr) (x1 : Addr) (x2 : Addr) (k_pl : ClassId) (c_pl : ClassId) (k_oa : ClassId) (k_na : ClassId) (b0 : UInt64) (b1 : UInt64) (b2 : UInt64) (m0 : Int64) (m1 : Int64) (m2 : Int64) (eJ : Int64) (k_si : ClassId) (y0 : Int32) (u20 : Int32) (h0 : Heap) (n0 : Nat) (Z0 : n0 ≤ h0.size) (fc0 : Exa Z h0 a "com/example/allocus/allocus/method/Population") (fc1 : Fld Z h0 a "com/example/allocus/allocus/method/Population" "plans" "[[I" (.ref pl)) (fc2 : Fld Z h0 a "com/example/allocus/allocus/method/Population" "objectives" "[D" (.ref oa)) (fc3 : Fld Z h0 a "com/example/allocus/allocus/method/Population" "entered" "[J" (.ref na)) (fc4 : Fld Z h0 a "com/example/allocus/allocus/method/Population" "count" "I" (.int (2 : Int32))) (fc5 : Fld Z h0 a "com/example/allocus/allocus/method/Population" "entries" "J" (.long eJ)) (fc6 : Fld Z h0 a "com/example/allocus/allocus/method/Population" "worst" "I" (.int (0 : Int32))) (fc7 : Fld Z h0 a "com/example/allocus/allocus/method/Population" "best" "I" (.int (1 : Int32))) (fc8 : Arv Z h0 pl k_pl (.array .int) (3 : Int32) [.ref x0, .ref x1, .ref x2] (.null)) (fc9 : Arv Z h0 x2 c_pl .int (1 : Int32) [.int u20] (.int (0 : Int32))) (fc10 : Arv Z h0 oa k_oa .double (3 : Int32) [.double b0, .double b1, .double b2] (.double 0)) (fc11 : Arv Z h0 na k_na .long (3 : Int32) [.long m0, .long m1, .long m2] (.long (0 : Int64))) (fc12 : Arv Z h0 si k_si .int (1 : Int32) [.int y0] (.int (0 : Int32))) (nq0 : a ≠ pl) (nq1 : a ≠ oa) (nq2 : a ≠ na) (nq3 : a ≠ x0) (nq4 : a ≠ x1) (nq5 : a ≠ x2) (nq6 : pl ≠ oa) (nq7 : pl ≠ na) (nq8 : pl ≠ x0) (nq9 : pl ≠ x1) (nq10 : pl ≠ x2) (nq11 : oa ≠ na) (nq12 : oa ≠ x0) (nq13 : oa ≠ x1) (nq14 : oa ≠ x2) (nq15 : na ≠ x0) (nq16 : na ≠ x1) (nq17 : na ≠ x2) (nq18 : x0 ≠ x1) (nq19 : x0 ≠ x2) (nq20 : x1 ≠ x2) (nq21 : si ≠ a) (nq22 : si ≠ pl) (nq23 : si ≠ oa) (nq24 : si ≠ na) (nq25 : si ≠ x0) (nq26 : si ≠ x1) (nq27 : si ≠ x2) (fq0 : n0 ≤ a) (fq1 : n0 ≤ x0) (fq2 : n0 ≤ x1) (fq3 : n0 ≤ x2) (fq4 : n0 ≤ oa) (fq5 : n0 ≤ na) (n_dv : NoNaN64 dv) (n_b0 : NoNaN64 b0) (n_b1 : NoNaN64 b1) (c1 : Own.dz dv ≤ Own.dz b0) (c2 : Own.dz dv < Own.dz b1) :
    Own.Con l Z mn_3 [] prog_48_method_5_code 5 none ({ frames := 2, cells := 0, slots := 0, locals := 48 } : Room) #[.ref a, .ref si, .double dv] h0 n0 (fun v h => v = none ∧ Keep h0 h [a, x2, oa, na] ∧ Fld Z h a "com/example/allocus/allocus/method/Population" "plans" "[[I" (.ref pl) ∧ Fld Z h a "com/example/allocus/allocus/method/Population" "objectives" "[D" (.ref oa) ∧ Fld Z h a "com/example/allocus/allocus/method/Population" "entered" "[J" (.ref na) ∧ Fld Z h a "com/example/allocus/allocus/method/Population" "count" "I" (.int (3 : Int32)) ∧ Fld Z h a "com/example/allocus/allocus/method/Population" "entries" "J" (.long (eJ + (1 : Int64))) ∧ Fld Z h a "com/example/allocus/allocus/method/Population" "worst" "I" (.int (0 : Int32)) ∧ Fld Z h a "com/example/allocus/allocus/method/Population" "best" "I" (.int (2 : Int32)) ∧ Arv Z h x2 c_pl .int (1 : Int32) [.int y0] (.int (0 : Int32)) ∧ Arv Z h oa k_oa .double (3 : Int32) [.double b0, .double b1, .double dv] (.double 0) ∧ Arv Z h na k_na .long (3 : Int32) [.long m0, .long m1, .long eJ] (.long (0 : Int64))) := by
  refine Own.enter (own := "com/example/allocus/allocus/method/Population") (nm := "add") (plainFor_of_name pn_com_example_allocus_allocus_method_Population) rfl rfl (fun m => ef_3_20102 m a si dv) fun p e s m below meth c T X => ?_
  refine Own.aloadN X d3_0 rfl rfl ?_
  refine Own.getF_ X d3_1 (host := "") (Or.inl (Own.wd hw 25 rfl)) Via.refl fc4 fun T1 X1 => ?_
  clear X
  refine Own.istore X1 d3_4 (l' := #[.val (.ref a), .val (.ref si), .val (.double dv), .second, .val (.int (2 : Int32))]) rfl ?_
  refine Own.aloadN X1 d3_6 rfl rfl ?_
  refine Own.dup X1 d3_7 rfl ?_
  refine Own.getF_ X1 d3_8 (host := "") (Or.inl (Own.wd hw 25 rfl)) Via.refl fc4 fun T2 X2 => ?_
  clear X1
  refine Own.iconst X2 (v := 1) d3_11 rfl ?_
  refine Own.iadd X2 d3_12 ?_
  show Own.Go p e below s n0 _ _ _ (T2.setTop (mkF m 13 _ [.int (3 : Int32), .ref a]))
  refine Own.putF_ X2 d3_13 (host := "") (Or.inl (Own.wd hw 25 rfl)) Via.refl fc4 fc0 (Or.inl (Own.wd hw 26 rfl)) (Own.wd hw 2 rfl) (ty := .int) (by decide) rfl rfl fq0 fun T3 h3 X3 W3 => ?_
  have F4 := fc0.wr W3
  have F5 := fc1.other W3 (Or.inr (slot_ne (Or.inr (Own.wd hw 13 rfl)) (Or.inl (Own.wd hw 26 rfl)) (by decide) (t := (.array (.array .int))) (t' := .int) (by decide) (by decide)))
  have F6 := fc2.other W3 (Or.inr (slot_ne (Or.inr (Own.wd hw 16 rfl)) (Or.inl (Own.wd hw 26 rfl)) (by decide) (t := (.array .double)) (t' := .int) (by decide) (by decide)))
  have F7 := fc3.other W3 (Or.inr (slot_ne (Or.inr (Own.wd hw 19 rfl)) (Or.inl (Own.wd hw 26 rfl)) (by decide) (t := (.array .long)) (t' := .int) (by decide) (by decide)))
  have F8 := fc5.other W3 (Or.inr (slot_ne (Or.inl (Own.wd hw 36 rfl)) (Or.inl (Own.wd hw 26 rfl)) (by decide) (t := .long) (t' := .int) (by decide) (by decide)))
  have F9 := fc6.other W3 (Or.inr (slot_ne (Or.inl (Own.wd hw 38 rfl)) (Or.inl (Own.wd hw 26 rfl)) (by decide) (t := .int) (t' := .int) (by decide) (by decide)))
  have F10 := fc7.other W3 (Or.inr (slot_ne (Or.inl (Own.wd hw 40 rfl)) (Or.inl (Own.wd hw 26 rfl)) (by decide) (t := .int) (t' := .int) (by decide) (by decide)))
  have F11 := fc8.other W3 (Ne.symm nq0)
  have F12 := fc9.other W3 (Ne.symm nq5)
  have F13 := fc10.other W3 (Ne.symm nq1)
  have F14 := fc11.other W3 (Ne.symm nq2)
  have F15 := fc12.other W3 nq21
  have F16 := (Keep.refl h0 [a, x2, oa, na]).wr W3 (Or.inl (List.mem_of_getElem? (i := 0) rfl))
  have F17 : Fld Z h3 a "com/example/allocus/allocus/method/Population" "count" "I" (.int (3 : Int32)) := Fld.same W3 fc4
  have Z18 : n0 ≤ h3.size := by rw [W3.size]; exact Z0
  clear X2 fc0 fc1 fc10 fc11 fc12 fc2 fc3 fc4 fc5 fc6 fc7 fc8 fc9
  refine Own.aloadN X3 d3_16 rfl rfl ?_
  refine Own.iload X3 d3_17 rfl ?_
  refine Own.aloadN X3 d3_19 rfl rfl ?_
  refine Own.dloadN X3 d3_20 rfl ?_
  refine Own.callP_ (y := mn_1) (D := "com/example/allocus/allocus/method/Population") (z' := mn_3) (z := mn_3) (a := a) X3 d3_21 (Own.wd hw 27 rfl) (Own.wd hw 28 rfl) (Own.wd hw 23 rfl) rfl (Own.wd hw 29 rfl) (Own.wd hw 3 rfl) (Own.wd hw 30 rfl) (by decide) F4 (rm4_2 l Z a0 hw a si dv pl oa na x0 x1 x2 k_pl c_pl k_oa k_na b0 b1 b2 m0 m1 m2 eJ k_si y0 u20 (3 : Int32) (0 : Int32) (1 : Int32) h3 n0 Z18 F4 F5 F6 F7 F17 F8 F9 F10 F11 F12 F13 F14 F15 nq0 nq1 nq2 nq3 nq4 nq5 nq6 nq7 nq8 nq9 nq10 nq11 nq12 nq13 nq14 nq15 nq16 nq17 nq18 nq19 nq20 nq21 nq22 nq23 nq24 nq25 nq26 nq27 fq0 fq1 fq2 fq3 fq4 fq5 ) (lenOf pd_2 rfl) rfl (argsL := [.int (2 : Int32), .ref si, .double dv]) (rest := []) rfl (W := 0) (Nat.le_of_eq rfl) (by decide) (by decide) (by decide) (by decide) fun T19 h19 v19 X19 q19 => ?_
  obtain ⟨rfl, K19, G19_0, G19_1, G19_2, G19_3, G19_4, G19_5, G19_6, G19_7, G19_8, G19_9⟩ := q19
  have F20 := F4.keep K19
  have F21 := F11.keep K19 (ninS (Ne.symm nq0) (ninS nq10 (ninS nq6 (ninS nq7 nin0))))
  have F22 := F15.keep K19 (ninS nq21 (ninS nq27 (ninS nq23 (ninS nq24 nin0))))
  have F23 := F16.trans K19 (allS (Or.inl (List.mem_of_getElem? (i := 0) rfl)) (allS (Or.inl (List.mem_of_getElem? (i := 1) rfl)) (allS (Or.inl (List.mem_of_getElem? (i := 2) rfl)) (allS (Or.inl (List.mem_of_getElem? (i := 3) rfl)) all0))))
  have Z24 : n0 ≤ h19.size := Nat.le_trans Z18 K19.1
  show Own.Go p e below s n0 _ _ _ (T19.setTop (mkF m 24 _ []))
  clear F10 F11 F12 F13 F14 F15 F16 F17 F4 F5 F6 F7 F8 F9 X3
  refine Own.iload X19 d3_24 rfl ?_
  refine Own.iff_ X19 (pc' := 43) d3_26 (by decide) (fun q => absurd (show (2 : Int) = (0 : Int) from q) (show ¬ ((2 : Int) = (0 : Int)) from by decide)) (fun _ => ?_)
  refine Own.dloadN X19 d3_29 rfl ?_
  refine Own.aloadN X19 d3_30 rfl rfl ?_
  refine Own.getF_ X19 d3_31 (host := "") (Or.inl (Own.wd hw 15 rfl)) Via.refl G19_1 fun T25 X25 => ?_
  clear X19
  refine Own.aloadN X25 d3_34 rfl rfl ?_
  refine Own.getF_ X25 d3_35 (host := "") (Or.inl (Own.wd hw 37 rfl)) Via.refl G19_5 fun T26 X26 => ?_
  clear X25
  refine Own.daload_ X26 d3_38 G19_8 (by decide) rfl ?_
  refine Own.dcmpF X26 (pc' := 49) d3_39 d3_40 (by decide) n_dv n_b0 (fun _ => ?_) (fun q => absurd (show Own.dz dv ≤ Own.dz b0 from by omega) q)
  refine Own.iload X26 d3_49 rfl ?_
  refine Own.iff_ X26 (pc' := 68) d3_51 (by decide) (fun q => absurd (show (2 : Int) = (0 : Int) from q) (show ¬ ((2 : Int) = (0 : Int)) from by decide)) (fun _ => ?_)
  refine Own.dloadN X26 d3_54 rfl ?_
  refine Own.aloadN X26 d3_55 rfl rfl ?_
  refine Own.getF_ X26 d3_56 (host := "") (Or.inl (Own.wd hw 15 rfl)) Via.refl G19_1 fun T27 X27 => ?_
  clear X26
  refine Own.aloadN X27 d3_59 rfl rfl ?_
  refine Own.getF_ X27 d3_60 (host := "") (Or.inl (Own.wd hw 39 rfl)) Via.refl G19_6 fun T28 X28 => ?_
  clear X27
  refine Own.daload_ X28 d3_63 G19_8 (by decide) rfl ?_
  refine Own.dcmpF X28 (pc' := 74) d3_64 d3_65 (by decide) n_dv n_b1 (fun q => absurd (show Own.dz b1 ≤ Own.dz dv from q) (show ¬ (Own.dz b1 ≤ Own.dz dv) from by omega)) (fun _ => ?_)
  refine Own.aloadN X28 d3_68 rfl rfl ?_
  refine Own.iload X28 d3_69 rfl ?_
  refine Own.putF_ X28 d3_71 (host := "") (Or.inl (Own.wd hw 39 rfl)) Via.refl G19_6 F20 (Or.inl (Own.wd hw 40 rfl)) (Own.wd hw 2 rfl) (ty := .int) (by decide) rfl rfl fq0 fun T29 h29 X29 W29 => ?_
  have F30 := F20.wr W29
  have F31 := F21.other W29 (Ne.symm nq0)
  have F32 := F22.other W29 nq21
  have F33 := F23.wr W29 (Or.inl (List.mem_of_getElem? (i := 0) rfl))
  have F34 := G19_0.other W29 (Or.inr (slot_ne (Or.inr (Own.wd hw 13 rfl)) (Or.inl (Own.wd hw 40 rfl)) (by decide) (t := (.array (.array .int))) (t' := .int) (by decide) (by decide)))
  have F35 := G19_1.other W29 (Or.inr (slot_ne (Or.inr (Own.wd hw 16 rfl)) (Or.inl (Own.wd hw 40 rfl)) (by decide) (t := (.array .double)) (t' := .int) (by decide) (by decide)))
  have F36 := G19_2.other W29 (Or.inr (slot_ne (Or.inr (Own.wd hw 19 rfl)) (Or.inl (Own.wd hw 40 rfl)) (by decide) (t := (.array .long)) (t' := .int) (by decide) (by decide)))
  have F37 := G19_3.other W29 (Or.inr (slot_ne (Or.inl (Own.wd hw 26 rfl)) (Or.inl (Own.wd hw 40 rfl)) (by decide) (t := .int) (t' := .int) (by decide) (by decide)))
  have F38 := G19_4.other W29 (Or.inr (slot_ne (Or.inl (Own.wd hw 36 rfl)) (Or.inl (Own.wd hw 40 rfl)) (by decide) (t := .long) (t' := .int) (by decide) (by decide)))
  have F39 := G19_5.other W29 (Or.inr (slot_ne (Or.inl (Own.wd hw 38 rfl)) (Or.inl (Own.wd hw 40 rfl)) (by decide) (t := .int) (t' := .int) (by decide) (by decide)))
  have F40 := G19_7.other W29 (Ne.symm nq5)
  have F41 := G19_8.other W29 (Ne.symm nq1)
  have F42 := G19_9.other W29 (Ne.symm nq2)
  have F43 : Fld Z h29 a "com/example/allocus/allocus/method/Population" "best" "I" (.int (2 : Int32)) := Fld.same W29 G19_6
  have Z44 : n0 ≤ h29.size := by rw [W29.size]; exact Z24
  clear F20 F21 F22 F23 G19_0 G19_1 G19_2 G19_3 G19_4 G19_5 G19_6 G19_7 G19_8 G19_9 X28
  exact Own.retV X29 d3_74 ⟨rfl, F33, F34, F35, F36, F37, F38, F39, F43, F40, F41, F42⟩ (by decide) (by decide)
theorem ef_3_20101 (m : MethodId) (x0 : Addr) (x1 : Addr) (x2 : UInt64) : entryFrame m #[.ref x0, .ref x1, .double x2] 5 = mkF m 0 #[.val (.ref x0), .val (.ref x1), .val (.double x2), .second, .unset] [] := by first | (simp [entryFrame, mkF, argsToLocals, Value.category, maxLocals]; done) | rfl
set_option maxRecDepth 65536 in
set_option maxHeartbeats 40000000 in
theorem rm3_20101 (l : Launch) (Z : State) (a0 : Array Value) (hw : ∀ d ∈ tables_1, d.before a0 Z = true) (a : Addr) (si : Addr) (dv : UInt64) (pl : Addr) (oa : Addr) (na : Addr) (x0 : Addr) (x1 : Addr) (x2 : Addr) (k_pl : ClassId) (c_pl : ClassId) (k_oa : ClassId) (k_na : ClassId) (b0 : UInt64) (b1 : UInt64) (b2 : UInt64) (m0 : Int64) (m1 : Int64) (m2 : Int64) (eJ : Int64) (k_si : ClassId) (y0 : Int32) (u20 : Int32) (h0 : Heap) (n0 : Nat) (Z0 : n0 ≤ h0.size) (fc0 : Exa Z h0 a "com/example/allocus/allocus/method/Population") (fc1 : Fld Z h0 a "com/example/allocus/allocus/method/Population" "plans" "[[I" (.ref pl)) (fc2 : Fld Z h0 a "com/example/allocus/allocus/method/Population" "objectives" "[D" (.ref oa)) (fc3 : Fld Z h0 a "com/example/allocus/allocus/method/Population" "entered" "[J" (.ref na)) (fc4 : Fld Z h0 a "com/example/allocus/allocus/method/Population" "count" "I" (.int (2 : Int32))) (fc5 : Fld Z h0 a "com/example/allocus/allocus/method/Population" "entries" "J" (.long eJ)) (fc6 : Fld Z h0 a "com/example/allocus/allocus/method/Population" "worst" "I" (.int (0 : Int32))) (fc7 : Fld Z h0 a "com/example/allocus/allocus/method/Population" "best" "I" (.int (1 : Int32))) (fc8 : Arv Z h0 pl k_pl (.array .int) (3 : Int32) [.ref x0, .ref x1, .ref x2] (.null)) (fc9 : Arv Z h0 x2 c_pl .int (1 : Int32) [.int u20] (.int (0 : Int32))) (fc10 : Arv Z h0 oa k_oa .double (3 : Int32) [.double b0, .double b1, .double b2] (.double 0)) (fc11 : Arv Z h0 na k_na .long (3 : Int32) [.long m0, .long m1, .long m2] (.long (0 : Int64))) (fc12 : Arv Z h0 si k_si .int (1 : Int32) [.int y0] (.int (0 : Int32))) (nq0 : a ≠ pl) (nq1 : a ≠ oa) (nq2 : a ≠ na) (nq3 : a ≠ x0) (nq4 : a ≠ x1) (nq5 : a ≠ x2) (nq6 : pl ≠ oa) (nq7 : pl ≠ na) (nq8 : pl ≠ x0) (nq9 : pl ≠ x1) (nq10 : pl ≠ x2) (nq11 : oa ≠ na) (nq12 : oa ≠ x0) (nq13 : oa ≠ x1) (nq14 : oa ≠ x2) (nq15 : na ≠ x0) (nq16 : na ≠ x1) (nq17 : na ≠ x2) (nq18 : x0 ≠ x1) (nq19 : x0 ≠ x2) (nq20 : x1 ≠ x2) (nq21 : si ≠ a) (nq22 : si ≠ pl) (nq23 : si ≠ oa) (nq24 : si ≠ na) (nq25 : si ≠ x0) (nq26 : si ≠ x1) (nq27 : si ≠ x2) (fq0 : n0 ≤ a) (fq1 : n0 ≤ x0) (fq2 : n0 ≤ x1) (fq3 : n0 ≤ x2) (fq4 : n0 ≤ oa) (fq5 : n0 ≤ na) (n_dv : NoNaN64 dv) (n_b0 : NoNaN64 b0) (n_b1 : NoNaN64 b1) (c1 : Own.dz dv ≤ Own.dz b0) (c2 : Own.dz b1 ≤ Own.dz dv) :
    Own.Con l Z mn_3 [] prog_48_method_5_code 5 none ({ frames := 2, cells := 0, slots := 0, locals := 48 } : Room) #[.ref a, .ref si, .double dv] h0 n0 (fun v h => v = none ∧ Keep h0 h [a, x2, oa, na] ∧ Fld Z h a "com/example/allocus/allocus/method/Population" "plans" "[[I" (.ref pl) ∧ Fld Z h a "com/example/allocus/allocus/method/Population" "objectives" "[D" (.ref oa) ∧ Fld Z h a "com/example/allocus/allocus/method/Population" "entered" "[J" (.ref na) ∧ Fld Z h a "com/example/allocus/allocus/method/Population" "count" "I" (.int (3 : Int32)) ∧ Fld Z h a "com/example/allocus/allocus/method/Population" "entries" "J" (.long (eJ + (1 : Int64))) ∧ Fld Z h a "com/example/allocus/allocus/method/Population" "worst" "I" (.int (0 : Int32)) ∧ Fld Z h a "com/example/allocus/allocus/method/Population" "best" "I" (.int (1 : Int32)) ∧ Arv Z h x2 c_pl .int (1 : Int32) [.int y0] (.int (0 : Int32)) ∧ Arv Z h oa k_oa .double (3 : Int32) [.double b0, .double b1, .double dv] (.double 0) ∧ Arv Z h na k_na .long (3 : Int32) [.long m0, .long m1, .long eJ] (.long (0 : Int64))) := by
  refine Own.enter (own := "com/example/allocus/allocus/method/Population") (nm := "add") (plainFor_of_name pn_com_example_allocus_allocus_method_Population) rfl rfl (fun m => ef_3_20101 m a si dv) fun p e s m below meth c T X => ?_
  refine Own.aloadN X d3_0 rfl rfl ?_
  refine Own.getF_ X d3_1 (host := "") (Or.inl (Own.wd hw 25 rfl)) Via.refl fc4 fun T1 X1 => ?_
  clear X
  refine Own.istore X1 d3_4 (l' := #[.val (.ref a), .val (.ref si), .val (.double dv), .second, .val (.int (2 : Int32))]) rfl ?_
  refine Own.aloadN X1 d3_6 rfl rfl ?_
  refine Own.dup X1 d3_7 rfl ?_
  refine Own.getF_ X1 d3_8 (host := "") (Or.inl (Own.wd hw 25 rfl)) Via.refl fc4 fun T2 X2 => ?_
  clear X1
  refine Own.iconst X2 (v := 1) d3_11 rfl ?_
  refine Own.iadd X2 d3_12 ?_
  show Own.Go p e below s n0 _ _ _ (T2.setTop (mkF m 13 _ [.int (3 : Int32), .ref a]))
  refine Own.putF_ X2 d3_13 (host := "") (Or.inl (Own.wd hw 25 rfl)) Via.refl fc4 fc0 (Or.inl (Own.wd hw 26 rfl)) (Own.wd hw 2 rfl) (ty := .int) (by decide) rfl rfl fq0 fun T3 h3 X3 W3 => ?_
  have F4 := fc0.wr W3
  have F5 := fc1.other W3 (Or.inr (slot_ne (Or.inr (Own.wd hw 13 rfl)) (Or.inl (Own.wd hw 26 rfl)) (by decide) (t := (.array (.array .int))) (t' := .int) (by decide) (by decide)))
  have F6 := fc2.other W3 (Or.inr (slot_ne (Or.inr (Own.wd hw 16 rfl)) (Or.inl (Own.wd hw 26 rfl)) (by decide) (t := (.array .double)) (t' := .int) (by decide) (by decide)))
  have F7 := fc3.other W3 (Or.inr (slot_ne (Or.inr (Own.wd hw 19 rfl)) (Or.inl (Own.wd hw 26 rfl)) (by decide) (t := (.array .long)) (t' := .int) (by decide) (by decide)))
  have F8 := fc5.other W3 (Or.inr (slot_ne (Or.inl (Own.wd hw 36 rfl)) (Or.inl (Own.wd hw 26 rfl)) (by decide) (t := .long) (t' := .int) (by decide) (by decide)))
  have F9 := fc6.other W3 (Or.inr (slot_ne (Or.inl (Own.wd hw 38 rfl)) (Or.inl (Own.wd hw 26 rfl)) (by decide) (t := .int) (t' := .int) (by decide) (by decide)))
  have F10 := fc7.other W3 (Or.inr (slot_ne (Or.inl (Own.wd hw 40 rfl)) (Or.inl (Own.wd hw 26 rfl)) (by decide) (t := .int) (t' := .int) (by decide) (by decide)))
  have F11 := fc8.other W3 (Ne.symm nq0)
  have F12 := fc9.other W3 (Ne.symm nq5)
  have F13 := fc10.other W3 (Ne.symm nq1)
  have F14 := fc11.other W3 (Ne.symm nq2)
  have F15 := fc12.other W3 nq21
  have F16 := (Keep.refl h0 [a, x2, oa, na]).wr W3 (Or.inl (List.mem_of_getElem? (i := 0) rfl))
  have F17 : Fld Z h3 a "com/example/allocus/allocus/method/Population" "count" "I" (.int (3 : Int32)) := Fld.same W3 fc4
  have Z18 : n0 ≤ h3.size := by rw [W3.size]; exact Z0
  clear X2 fc0 fc1 fc10 fc11 fc12 fc2 fc3 fc4 fc5 fc6 fc7 fc8 fc9
  refine Own.aloadN X3 d3_16 rfl rfl ?_
  refine Own.iload X3 d3_17 rfl ?_
  refine Own.aloadN X3 d3_19 rfl rfl ?_
  refine Own.dloadN X3 d3_20 rfl ?_
  refine Own.callP_ (y := mn_1) (D := "com/example/allocus/allocus/method/Population") (z' := mn_3) (z := mn_3) (a := a) X3 d3_21 (Own.wd hw 27 rfl) (Own.wd hw 28 rfl) (Own.wd hw 23 rfl) rfl (Own.wd hw 29 rfl) (Own.wd hw 3 rfl) (Own.wd hw 30 rfl) (by decide) F4 (rm4_2 l Z a0 hw a si dv pl oa na x0 x1 x2 k_pl c_pl k_oa k_na b0 b1 b2 m0 m1 m2 eJ k_si y0 u20 (3 : Int32) (0 : Int32) (1 : Int32) h3 n0 Z18 F4 F5 F6 F7 F17 F8 F9 F10 F11 F12 F13 F14 F15 nq0 nq1 nq2 nq3 nq4 nq5 nq6 nq7 nq8 nq9 nq10 nq11 nq12 nq13 nq14 nq15 nq16 nq17 nq18 nq19 nq20 nq21 nq22 nq23 nq24 nq25 nq26 nq27 fq0 fq1 fq2 fq3 fq4 fq5 ) (lenOf pd_2 rfl) rfl (argsL := [.int (2 : Int32), .ref si, .double dv]) (rest := []) rfl (W := 0) (Nat.le_of_eq rfl) (by decide) (by decide) (by decide) (by decide) fun T19 h19 v19 X19 q19 => ?_
  obtain ⟨rfl, K19, G19_0, G19_1, G19_2, G19_3, G19_4, G19_5, G19_6, G19_7, G19_8, G19_9⟩ := q19
  have F20 := F4.keep K19
  have F21 := F11.keep K19 (ninS (Ne.symm nq0) (ninS nq10 (ninS nq6 (ninS nq7 nin0))))
  have F22 := F15.keep K19 (ninS nq21 (ninS nq27 (ninS nq23 (ninS nq24 nin0))))
  have F23 := F16.trans K19 (allS (Or.inl (List.mem_of_getElem? (i := 0) rfl)) (allS (Or.inl (List.mem_of_getElem? (i := 1) rfl)) (allS (Or.inl (List.mem_of_getElem? (i := 2) rfl)) (allS (Or.inl (List.mem_of_getElem? (i := 3) rfl)) all0))))
  have Z24 : n0 ≤ h19.size := Nat.le_trans Z18 K19.1
  show Own.Go p e below s n0 _ _ _ (T19.setTop (mkF m 24 _ []))
  clear F10 F11 F12 F13 F14 F15 F16 F17 F4 F5 F6 F7 F8 F9 X3
  refine Own.iload X19 d3_24 rfl ?_
  refine Own.iff_ X19 (pc' := 43) d3_26 (by decide) (fun q => absurd (show (2 : Int) = (0 : Int) from q) (show ¬ ((2 : Int) = (0 : Int)) from by decide)) (fun _ => ?_)
  refine Own.dloadN X19 d3_29 rfl ?_
  refine Own.aloadN X19 d3_30 rfl rfl ?_
  refine Own.getF_ X19 d3_31 (host := "") (Or.inl (Own.wd hw 15 rfl)) Via.refl G19_1 fun T25 X25 => ?_
  clear X19
  refine Own.aloadN X25 d3_34 rfl rfl ?_
  refine Own.getF_ X25 d3_35 (host := "") (Or.inl (Own.wd hw 37 rfl)) Via.refl G19_5 fun T26 X26 => ?_
  clear X25
  refine Own.daload_ X26 d3_38 G19_8 (by decide) rfl ?_
  refine Own.dcmpF X26 (pc' := 49) d3_39 d3_40 (by decide) n_dv n_b0 (fun _ => ?_) (fun q => absurd (show Own.dz dv ≤ Own.dz b0 from by omega) q)
  refine Own.iload X26 d3_49 rfl ?_
  refine Own.iff_ X26 (pc' := 68) d3_51 (by decide) (fun q => absurd (show (2 : Int) = (0 : Int) from q) (show ¬ ((2 : Int) = (0 : Int)) from by decide)) (fun _ => ?_)
  refine Own.dloadN X26 d3_54 rfl ?_
  refine Own.aloadN X26 d3_55 rfl rfl ?_
  refine Own.getF_ X26 d3_56 (host := "") (Or.inl (Own.wd hw 15 rfl)) Via.refl G19_1 fun T27 X27 => ?_
  clear X26
  refine Own.aloadN X27 d3_59 rfl rfl ?_
  refine Own.getF_ X27 d3_60 (host := "") (Or.inl (Own.wd hw 39 rfl)) Via.refl G19_6 fun T28 X28 => ?_
  clear X27
  refine Own.daload_ X28 d3_63 G19_8 (by decide) rfl ?_
  refine Own.dcmpF X28 (pc' := 74) d3_64 d3_65 (by decide) n_dv n_b1 (fun _ => ?_) (fun q => absurd (show Own.dz b1 ≤ Own.dz dv from by omega) q)
  exact Own.retV X28 d3_74 ⟨rfl, F23, G19_0, G19_1, G19_2, G19_3, G19_4, G19_5, G19_6, G19_7, G19_8, G19_9⟩ (by decide) (by decide)
theorem ef_3_10000 (m : MethodId) (x0 : Addr) (x1 : Addr) (x2 : UInt64) : entryFrame m #[.ref x0, .ref x1, .double x2] 5 = mkF m 0 #[.val (.ref x0), .val (.ref x1), .val (.double x2), .second, .unset] [] := by first | (simp [entryFrame, mkF, argsToLocals, Value.category, maxLocals]; done) | rfl
set_option maxRecDepth 65536 in
set_option maxHeartbeats 40000000 in
theorem rm3_10000 (l : Launch) (Z : State) (a0 : Array Value) (hw : ∀ d ∈ tables_1, d.before a0 Z = true) (a : Addr) (si : Addr) (dv : UInt64) (pl : Addr) (oa : Addr) (na : Addr) (x0 : Addr) (x1 : Addr) (x2 : Addr) (k_pl : ClassId) (c_pl : ClassId) (k_oa : ClassId) (k_na : ClassId) (b0 : UInt64) (b1 : UInt64) (b2 : UInt64) (m0 : Int64) (m1 : Int64) (m2 : Int64) (eJ : Int64) (k_si : ClassId) (y0 : Int32) (u10 : Int32) (h0 : Heap) (n0 : Nat) (Z0 : n0 ≤ h0.size) (fc0 : Exa Z h0 a "com/example/allocus/allocus/method/Population") (fc1 : Fld Z h0 a "com/example/allocus/allocus/method/Population" "plans" "[[I" (.ref pl)) (fc2 : Fld Z h0 a "com/example/allocus/allocus/method/Population" "objectives" "[D" (.ref oa)) (fc3 : Fld Z h0 a "com/example/allocus/allocus/method/Population" "entered" "[J" (.ref na)) (fc4 : Fld Z h0 a "com/example/allocus/allocus/method/Population" "count" "I" (.int (1 : Int32))) (fc5 : Fld Z h0 a "com/example/allocus/allocus/method/Population" "entries" "J" (.long eJ)) (fc6 : Fld Z h0 a "com/example/allocus/allocus/method/Population" "worst" "I" (.int (0 : Int32))) (fc7 : Fld Z h0 a "com/example/allocus/allocus/method/Population" "best" "I" (.int (0 : Int32))) (fc8 : Arv Z h0 pl k_pl (.array .int) (3 : Int32) [.ref x0, .ref x1, .ref x2] (.null)) (fc9 : Arv Z h0 x1 c_pl .int (1 : Int32) [.int u10] (.int (0 : Int32))) (fc10 : Arv Z h0 oa k_oa .double (3 : Int32) [.double b0, .double b1, .double b2] (.double 0)) (fc11 : Arv Z h0 na k_na .long (3 : Int32) [.long m0, .long m1, .long m2] (.long (0 : Int64))) (fc12 : Arv Z h0 si k_si .int (1 : Int32) [.int y0] (.int (0 : Int32))) (nq0 : a ≠ pl) (nq1 : a ≠ oa) (nq2 : a ≠ na) (nq3 : a ≠ x0) (nq4 : a ≠ x1) (nq5 : a ≠ x2) (nq6 : pl ≠ oa) (nq7 : pl ≠ na) (nq8 : pl ≠ x0) (nq9 : pl ≠ x1) (nq10 : pl ≠ x2) (nq11 : oa ≠ na) (nq12 : oa ≠ x0) (nq13 : oa ≠ x1) (nq14 : oa ≠ x2) (nq15 : na ≠ x0) (nq16 : na ≠ x1) (nq17 : na ≠ x2) (nq18 : x0 ≠ x1) (nq19 : x0 ≠ x2) (nq20 : x1 ≠ x2) (nq21 : si ≠ a) (nq22 : si ≠ pl) (nq23 : si ≠ oa) (nq24 : si ≠ na) (nq25 : si ≠ x0) (nq26 : si ≠ x1) (nq27 : si ≠ x2) (fq0 : n0 ≤ a) (fq1 : n0 ≤ x0) (fq2 : n0 ≤ x1) (fq3 : n0 ≤ x2) (fq4 : n0 ≤ oa) (fq5 : n0 ≤ na) (n_dv : NoNaN64 dv) (n_b0 : NoNaN64 b0) (c1 : Own.dz dv ≤ Own.dz b0) (c2 : Own.dz b0 ≤ Own.dz dv) :
    Own.Con l Z mn_3 [] prog_48_method_5_code 5 none ({ frames := 2, cells := 0, slots := 0, locals := 48 } : Room) #[.ref a, .ref si, .double dv] h0 n0 (fun v h => v = none ∧ Keep h0 h [a, x1, oa, na] ∧ Fld Z h a "com/example/allocus/allocus/method/Population" "plans" "[[I" (.ref pl) ∧ Fld Z h a "com/example/allocus/allocus/method/Population" "objectives" "[D" (.ref oa) ∧ Fld Z h a "com/example/allocus/allocus/method/Population" "entered" "[J" (.ref na) ∧ Fld Z h a "com/example/allocus/allocus/method/Population" "count" "I" (.int (2 : Int32)) ∧ Fld Z h a "com/example/allocus/allocus/method/Population" "entries" "J" (.long (eJ + (1 : Int64))) ∧ Fld Z h a "com/example/allocus/allocus/method/Population" "worst" "I" (.int (0 : Int32)) ∧ Fld Z h a "com/example/allocus/allocus/method/Population" "best" "I" (.int (0 : Int32)) ∧ Arv Z h x1 c_pl .int (1 : Int32) [.int y0] (.int (0 : Int32)) ∧ Arv Z h oa k_oa .double (3 : Int32) [.double b0, .double dv, .double b2] (.double 0) ∧ Arv Z h na k_na .long (3 : Int32) [.long m0, .long eJ, .long m2] (.long (0 : Int64))) := by
  refine Own.enter (own := "com/example/allocus/allocus/method/Population") (nm := "add") (plainFor_of_name pn_com_example_allocus_allocus_method_Population) rfl rfl (fun m => ef_3_10000 m a si dv) fun p e s m below meth c T X => ?_
  refine Own.aloadN X d3_0 rfl rfl ?_
  refine Own.getF_ X d3_1 (host := "") (Or.inl (Own.wd hw 25 rfl)) Via.refl fc4 fun T1 X1 => ?_
  clear X
  refine Own.istore X1 d3_4 (l' := #[.val (.ref a), .val (.ref si), .val (.double dv), .second, .val (.int (1 : Int32))]) rfl ?_
  refine Own.aloadN X1 d3_6 rfl rfl ?_
  refine Own.dup X1 d3_7 rfl ?_
  refine Own.getF_ X1 d3_8 (host := "") (Or.inl (Own.wd hw 25 rfl)) Via.refl fc4 fun T2 X2 => ?_
  clear X1
  refine Own.iconst X2 (v := 1) d3_11 rfl ?_
  refine Own.iadd X2 d3_12 ?_
  show Own.Go p e below s n0 _ _ _ (T2.setTop (mkF m 13 _ [.int (2 : Int32), .ref a]))
  refine Own.putF_ X2 d3_13 (host := "") (Or.inl (Own.wd hw 25 rfl)) Via.refl fc4 fc0 (Or.inl (Own.wd hw 26 rfl)) (Own.wd hw 2 rfl) (ty := .int) (by decide) rfl rfl fq0 fun T3 h3 X3 W3 => ?_
  have F4 := fc0.wr W3
  have F5 := fc1.other W3 (Or.inr (slot_ne (Or.inr (Own.wd hw 13 rfl)) (Or.inl (Own.wd hw 26 rfl)) (by decide) (t := (.array (.array .int))) (t' := .int) (by decide) (by decide)))
  have F6 := fc2.other W3 (Or.inr (slot_ne (Or.inr (Own.wd hw 16 rfl)) (Or.inl (Own.wd hw 26 rfl)) (by decide) (t := (.array .double)) (t' := .int) (by decide) (by decide)))
  have F7 := fc3.other W3 (Or.inr (slot_ne (Or.inr (Own.wd hw 19 rfl)) (Or.inl (Own.wd hw 26 rfl)) (by decide) (t := (.array .long)) (t' := .int) (by decide) (by decide)))
  have F8 := fc5.other W3 (Or.inr (slot_ne (Or.inl (Own.wd hw 36 rfl)) (Or.inl (Own.wd hw 26 rfl)) (by decide) (t := .long) (t' := .int) (by decide) (by decide)))
  have F9 := fc6.other W3 (Or.inr (slot_ne (Or.inl (Own.wd hw 38 rfl)) (Or.inl (Own.wd hw 26 rfl)) (by decide) (t := .int) (t' := .int) (by decide) (by decide)))
  have F10 := fc7.other W3 (Or.inr (slot_ne (Or.inl (Own.wd hw 40 rfl)) (Or.inl (Own.wd hw 26 rfl)) (by decide) (t := .int) (t' := .int) (by decide) (by decide)))
  have F11 := fc8.other W3 (Ne.symm nq0)
  have F12 := fc9.other W3 (Ne.symm nq4)
  have F13 := fc10.other W3 (Ne.symm nq1)
  have F14 := fc11.other W3 (Ne.symm nq2)
  have F15 := fc12.other W3 nq21
  have F16 := (Keep.refl h0 [a, x1, oa, na]).wr W3 (Or.inl (List.mem_of_getElem? (i := 0) rfl))
  have F17 : Fld Z h3 a "com/example/allocus/allocus/method/Population" "count" "I" (.int (2 : Int32)) := Fld.same W3 fc4
  have Z18 : n0 ≤ h3.size := by rw [W3.size]; exact Z0
  clear X2 fc0 fc1 fc10 fc11 fc12 fc2 fc3 fc4 fc5 fc6 fc7 fc8 fc9
  refine Own.aloadN X3 d3_16 rfl rfl ?_
  refine Own.iload X3 d3_17 rfl ?_
  refine Own.aloadN X3 d3_19 rfl rfl ?_
  refine Own.dloadN X3 d3_20 rfl ?_
  refine Own.callP_ (y := mn_1) (D := "com/example/allocus/allocus/method/Population") (z' := mn_3) (z := mn_3) (a := a) X3 d3_21 (Own.wd hw 27 rfl) (Own.wd hw 28 rfl) (Own.wd hw 23 rfl) rfl (Own.wd hw 29 rfl) (Own.wd hw 3 rfl) (Own.wd hw 30 rfl) (by decide) F4 (rm4_1 l Z a0 hw a si dv pl oa na x0 x1 x2 k_pl c_pl k_oa k_na b0 b1 b2 m0 m1 m2 eJ k_si y0 u10 (2 : Int32) (0 : Int32) (0 : Int32) h3 n0 Z18 F4 F5 F6 F7 F17 F8 F9 F10 F11 F12 F13 F14 F15 nq0 nq1 nq2 nq3 nq4 nq5 nq6 nq7 nq8 nq9 nq10 nq11 nq12 nq13 nq14 nq15 nq16 nq17 nq18 nq19 nq20 nq21 nq22 nq23 nq24 nq25 nq26 nq27 fq0 fq1 fq2 fq3 fq4 fq5 ) (lenOf pd_2 rfl) rfl (argsL := [.int (1 : Int32), .ref si, .double dv]) (rest := []) rfl (W := 0) (Nat.le_of_eq rfl) (by decide) (by decide) (by decide) (by decide) fun T19 h19 v19 X19 q19 => ?_
  obtain ⟨rfl, K19, G19_0, G19_1, G19_2, G19_3, G19_4, G19_5, G19_6, G19_7, G19_8, G19_9⟩ := q19
  have F20 := F4.keep K19
  have F21 := F11.keep K19 (ninS (Ne.symm nq0) (ninS nq9 (ninS nq6 (ninS nq7 nin0))))
  have F22 := F15.keep K19 (ninS nq21 (ninS nq26 (ninS nq23 (ninS nq24 nin0))))
  have F23 := F16.trans K19 (allS (Or.inl (List.mem_of_getElem? (i := 0) rfl)) (allS (Or.inl (List.mem_of_getElem? (i := 1) rfl)) (allS (Or.inl (List.mem_of_getElem? (i := 2) rfl)) (allS (Or.inl (List.mem_of_getElem? (i := 3) rfl)) all0))))
  have Z24 : n0 ≤ h19.size := Nat.le_trans Z18 K19.1
  show Own.Go p e below s n0 _ _ _ (T19.setTop (mkF m 24 _ []))
  clear F10 F11 F12 F13 F14 F15 F16 F17 F4 F5 F6 F7 F8 F9 X3
  refine Own.iload X19 d3_24 rfl ?_
  refine Own.iff_ X19 (pc' := 43) d3_26 (by decide) (fun q => absurd (show (1 : Int) = (0 : Int) from q) (show ¬ ((1 : Int) = (0 : Int)) from by decide)) (fun _ => ?_)
  refine Own.dloadN X19 d3_29 rfl ?_
  refine Own.aloadN X19 d3_30 rfl rfl ?_
  refine Own.getF_ X19 d3_31 (host := "") (Or.inl (Own.wd hw 15 rfl)) Via.refl G19_1 fun T25 X25 => ?_
  clear X19
  refine Own.aloadN X25 d3_34 rfl rfl ?_
  refine Own.getF_ X25 d3_35 (host := "") (Or.inl (Own.wd hw 37 rfl)) Via.refl G19_5 fun T26 X26 => ?_
  clear X25
  refine Own.daload_ X26 d3_38 G19_8 (by decide) rfl ?_
  refine Own.dcmpF X26 (pc' := 49) d3_39 d3_40 (by decide) n_dv n_b0 (fun _ => ?_) (fun q => absurd (show Own.dz dv ≤ Own.dz b0 from by omega) q)
  refine Own.iload X26 d3_49 rfl ?_
  refine Own.iff_ X26 (pc' := 68) d3_51 (by decide) (fun q => absurd (show (1 : Int) = (0 : Int) from q) (show ¬ ((1 : Int) = (0 : Int)) from by decide)) (fun _ => ?_)
  refine Own.dloadN X26 d3_54 rfl ?_
  refine Own.aloadN X26 d3_55 rfl rfl ?_
  refine Own.getF_ X26 d3_56 (host := "") (Or.inl (Own.wd hw 15 rfl)) Via.refl G19_1 fun T27 X27 => ?_
  clear X26
  refine Own.aloadN X27 d3_59 rfl rfl ?_
  refine Own.getF_ X27 d3_60 (host := "") (Or.inl (Own.wd hw 39 rfl)) Via.refl G19_6 fun T28 X28 => ?_
  clear X27
  refine Own.daload_ X28 d3_63 G19_8 (by decide) rfl ?_
  refine Own.dcmpF X28 (pc' := 74) d3_64 d3_65 (by decide) n_dv n_b0 (fun _ => ?_) (fun q => absurd (show Own.dz b0 ≤ Own.dz dv from by omega) q)
  exact Own.retV X28 d3_74 ⟨rfl, F23, G19_0, G19_1, G19_2, G19_3, G19_4, G19_5, G19_6, G19_7, G19_8, G19_9⟩ (by decide) (by decide)
theorem ef_3_20020 (m : MethodId) (x0 : Addr) (x1 : Addr) (x2 : UInt64) : entryFrame m #[.ref x0, .ref x1, .double x2] 5 = mkF m 0 #[.val (.ref x0), .val (.ref x1), .val (.double x2), .second, .unset] [] := by first | (simp [entryFrame, mkF, argsToLocals, Value.category, maxLocals]; done) | rfl
set_option maxRecDepth 65536 in
set_option maxHeartbeats 40000000 in
theorem rm3_20020 (l : Launch) (Z : State) (a0 : Array Value) (hw : ∀ d ∈ tables_1, d.before a0 Z = true) (a : Addr) (si : Addr) (dv : UInt64) (pl : Addr) (oa : Addr) (na : Addr) (x0 : Addr) (x1 : Addr) (x2 : Addr) (k_pl : ClassId) (c_pl : ClassId) (k_oa : ClassId) (k_na : ClassId) (b0 : UInt64) (b1 : UInt64) (b2 : UInt64) (m0 : Int64) (m1 : Int64) (m2 : Int64) (eJ : Int64) (k_si : ClassId) (y0 : Int32) (u20 : Int32) (h0 : Heap) (n0 : Nat) (Z0 : n0 ≤ h0.size) (fc0 : Exa Z h0 a "com/example/allocus/allocus/method/Population") (fc1 : Fld Z h0 a "com/example/allocus/allocus/method/Population" "plans" "[[I" (.ref pl)) (fc2 : Fld Z h0 a "com/example/allocus/allocus/method/Population" "objectives" "[D" (.ref oa)) (fc3 : Fld Z h0 a "com/example/allocus/allocus/method/Population" "entered" "[J" (.ref na)) (fc4 : Fld Z h0 a "com/example/allocus/allocus/method/Population" "count" "I" (.int (2 : Int32))) (fc5 : Fld Z h0 a "com/example/allocus/allocus/method/Population" "entries" "J" (.long eJ)) (fc6 : Fld Z h0 a "com/example/allocus/allocus/method/Population" "worst" "I" (.int (0 : Int32))) (fc7 : Fld Z h0 a "com/example/allocus/allocus/method/Population" "best" "I" (.int (0 : Int32))) (fc8 : Arv Z h0 pl k_pl (.array .int) (3 : Int32) [.ref x0, .ref x1, .ref x2] (.null)) (fc9 : Arv Z h0 x2 c_pl .int (1 : Int32) [.int u20] (.int (0 : Int32))) (fc10 : Arv Z h0 oa k_oa .double (3 : Int32) [.double b0, .double b1, .double b2] (.double 0)) (fc11 : Arv Z h0 na k_na .long (3 : Int32) [.long m0, .long m1, .long m2] (.long (0 : Int64))) (fc12 : Arv Z h0 si k_si .int (1 : Int32) [.int y0] (.int (0 : Int32))) (nq0 : a ≠ pl) (nq1 : a ≠ oa) (nq2 : a ≠ na) (nq3 : a ≠ x0) (nq4 : a ≠ x1) (nq5 : a ≠ x2) (nq6 : pl ≠ oa) (nq7 : pl ≠ na) (nq8 : pl ≠ x0) (nq9 : pl ≠ x1) (nq10 : pl ≠ x2) (nq11 : oa ≠ na) (nq12 : oa ≠ x0) (nq13 : oa ≠ x1) (nq14 : oa ≠ x2) (nq15 : na ≠ x0) (nq16 : na ≠ x1) (nq17 : na ≠ x2) (nq18 : x0 ≠ x1) (nq19 : x0 ≠ x2) (nq20 : x1 ≠ x2) (nq21 : si ≠ a) (nq22 : si ≠ pl) (nq23 : si ≠ oa) (nq24 : si ≠ na) (nq25 : si ≠ x0) (nq26 : si ≠ x1) (nq27 : si ≠ x2) (fq0 : n0 ≤ a) (fq1 : n0 ≤ x0) (fq2 : n0 ≤ x1) (fq3 : n0 ≤ x2) (fq4 : n0 ≤ oa) (fq5 : n0 ≤ na) (n_dv : NoNaN64 dv) (n_b0 : NoNaN64 b0) (c1 : Own.dz b0 < Own.dz dv) (c2 : Own.dz b0 ≤ Own.dz dv) :
    Own.Con l Z mn_3 [] prog_48_method_5_code 5 none ({ frames := 2, cells := 0, slots := 0, locals := 48 } : Room) #[.ref a, .ref si, .double dv] h0 n0 (fun v h => v = none ∧ Keep h0 h [a, x2, oa, na] ∧ Fld Z h a "com/example/allocus/allocus/method/Population" "plans" "[[I" (.ref pl) ∧ Fld Z h a "com/example/allocus/allocus/method/Population" "objectives" "[D" (.ref oa) ∧ Fld Z h a "com/example/allocus/allocus/method/Population" "entered" "[J" (.ref na) ∧ Fld Z h a "com/example/allocus/allocus/method/Population" "count" "I" (.int (3 : Int32)) ∧ Fld Z h a "com/example/allocus/allocus/method/Population" "entries" "J" (.long (eJ + (1 : Int64))) ∧ Fld Z h a "com/example/allocus/allocus/method/Population" "worst" "I" (.int (2 : Int32)) ∧ Fld Z h a "com/example/allocus/allocus/method/Population" "best" "I" (.int (0 : Int32)) ∧ Arv Z h x2 c_pl .int (1 : Int32) [.int y0] (.int (0 : Int32)) ∧ Arv Z h oa k_oa .double (3 : Int32) [.double b0, .double b1, .double dv] (.double 0) ∧ Arv Z h na k_na .long (3 : Int32) [.long m0, .long m1, .long eJ] (.long (0 : Int64))) := by
  refine Own.enter (own := "com/example/allocus/allocus/method/Population") (nm := "add") (plainFor_of_name pn_com_example_allocus_allocus_method_Population) rfl rfl (fun m => ef_3_20020 m a si dv) fun p e s m below meth c T X => ?_
  refine Own.aloadN X d3_0 rfl rfl ?_
  refine Own.getF_ X d3_1 (host := "") (Or.inl (Own.wd hw 25 rfl)) Via.refl fc4 fun T1 X1 => ?_
  clear X
  refine Own.istore X1 d3_4 (l' := #[.val (.ref a), .val (.ref si), .val (.double dv), .second, .val (.int (2 : Int32))]) rfl ?_
  refine Own.aloadN X1 d3_6 rfl rfl ?_
  refine Own.dup X1 d3_7 rfl ?_
  refine Own.getF_ X1 d3_8 (host := "") (Or.inl (Own.wd hw 25 rfl)) Via.refl fc4 fun T2 X2 => ?_
  clear X1
  refine Own.iconst X2 (v := 1) d3_11 rfl ?_
  refine Own.iadd X2 d3_12 ?_
  show Own.Go p e below s n0 _ _ _ (T2.setTop (mkF m 13 _ [.int (3 : Int32), .ref a]))
  refine Own.putF_ X2 d3_13 (host := "") (Or.inl (Own.wd hw 25 rfl)) Via.refl fc4 fc0 (Or.inl (Own.wd hw 26 rfl)) (Own.wd hw 2 rfl) (ty := .int) (by decide) rfl rfl fq0 fun T3 h3 X3 W3 => ?_
  have F4 := fc0.wr W3
  have F5 := fc1.other W3 (Or.inr (slot_ne (Or.inr (Own.wd hw 13 rfl)) (Or.inl (Own.wd hw 26 rfl)) (by decide) (t := (.array (.array .int))) (t' := .int) (by decide) (by decide)))
  have F6 := fc2.other W3 (Or.inr (slot_ne (Or.inr (Own.wd hw 16 rfl)) (Or.inl (Own.wd hw 26 rfl)) (by decide) (t := (.array .double)) (t' := .int) (by decide) (by decide)))
  have F7 := fc3.other W3 (Or.inr (slot_ne (Or.inr (Own.wd hw 19 rfl)) (Or.inl (Own.wd hw 26 rfl)) (by decide) (t := (.array .long)) (t' := .int) (by decide) (by decide)))
  have F8 := fc5.other W3 (Or.inr (slot_ne (Or.inl (Own.wd hw 36 rfl)) (Or.inl (Own.wd hw 26 rfl)) (by decide) (t := .long) (t' := .int) (by decide) (by decide)))
  have F9 := fc6.other W3 (Or.inr (slot_ne (Or.inl (Own.wd hw 38 rfl)) (Or.inl (Own.wd hw 26 rfl)) (by decide) (t := .int) (t' := .int) (by decide) (by decide)))
  have F10 := fc7.other W3 (Or.inr (slot_ne (Or.inl (Own.wd hw 40 rfl)) (Or.inl (Own.wd hw 26 rfl)) (by decide) (t := .int) (t' := .int) (by decide) (by decide)))
  have F11 := fc8.other W3 (Ne.symm nq0)
  have F12 := fc9.other W3 (Ne.symm nq5)
  have F13 := fc10.other W3 (Ne.symm nq1)
  have F14 := fc11.other W3 (Ne.symm nq2)
  have F15 := fc12.other W3 nq21
  have F16 := (Keep.refl h0 [a, x2, oa, na]).wr W3 (Or.inl (List.mem_of_getElem? (i := 0) rfl))
  have F17 : Fld Z h3 a "com/example/allocus/allocus/method/Population" "count" "I" (.int (3 : Int32)) := Fld.same W3 fc4
  have Z18 : n0 ≤ h3.size := by rw [W3.size]; exact Z0
  clear X2 fc0 fc1 fc10 fc11 fc12 fc2 fc3 fc4 fc5 fc6 fc7 fc8 fc9
  refine Own.aloadN X3 d3_16 rfl rfl ?_
  refine Own.iload X3 d3_17 rfl ?_
  refine Own.aloadN X3 d3_19 rfl rfl ?_
  refine Own.dloadN X3 d3_20 rfl ?_
  refine Own.callP_ (y := mn_1) (D := "com/example/allocus/allocus/method/Population") (z' := mn_3) (z := mn_3) (a := a) X3 d3_21 (Own.wd hw 27 rfl) (Own.wd hw 28 rfl) (Own.wd hw 23 rfl) rfl (Own.wd hw 29 rfl) (Own.wd hw 3 rfl) (Own.wd hw 30 rfl) (by decide) F4 (rm4_2 l Z a0 hw a si dv pl oa na x0 x1 x2 k_pl c_pl k_oa k_na b0 b1 b2 m0 m1 m2 eJ k_si y0 u20 (3 : Int32) (0 : Int32) (0 : Int32) h3 n0 Z18 F4 F5 F6 F7 F17 F8 F9 F10 F11 F12 F13 F14 F15 nq0 nq1 nq2 nq3 nq4 nq5 nq6 nq7 nq8 nq9 nq10 nq11 nq12 nq13 nq14 nq15 nq16 nq17 nq18 nq19 nq20 nq21 nq22 nq23 nq24 nq25 nq26 nq27 fq0 fq1 fq2 fq3 fq4 fq5 ) (lenOf pd_2 rfl) rfl (argsL := [.int (2 : Int32), .ref si, .double dv]) (rest := []) rfl (W := 0) (Nat.le_of_eq rfl) (by decide) (by decide) (by decide) (by decide) fun T19 h19 v19 X19 q19 => ?_
  obtain ⟨rfl, K19, G19_0, G19_1, G19_2, G19_3, G19_4, G19_5, G19_6, G19_7, G19_8, G19_9⟩ := q19
  have F20 := F4.keep K19
  have F21 := F11.keep K19 (ninS (Ne.symm nq0) (ninS nq10 (ninS nq6 (ninS nq7 nin0))))
  have F22 := F15.keep K19 (ninS nq21 (ninS nq27 (ninS nq23 (ninS nq24 nin0))))
  have F23 := F16.trans K19 (allS (Or.inl (List.mem_of_getElem? (i := 0) rfl)) (allS (Or.inl (List.mem_of_getElem? (i := 1) rfl)) (allS (Or.inl (List.mem_of_getElem? (i := 2) rfl)) (allS (Or.inl (List.mem_of_getElem? (i := 3) rfl)) all0))))
  have Z24 : n0 ≤ h19.size := Nat.le_trans Z18 K19.1
  show Own.Go p e below s n0 _ _ _ (T19.setTop (mkF m 24 _ []))
  clear F10 F11 F12 F13 F14 F15 F16 F17 F4 F5 F6 F7 F8 F9 X3
  refine Own.iload X19 d3_24 rfl ?_
  refine Own.iff_ X19 (pc' := 43) d3_26 (by decide) (fun q => absurd (show (2 : Int) = (0 : Int) from q) (show ¬ ((2 : Int) = (0 : Int)) from by decide)) (fun _ => ?_)
  refine Own.dloadN X19 d3_29 rfl ?_
  refine Own.aloadN X19 d3_30 rfl rfl ?_
  refine Own.getF_ X19 d3_31 (host := "") (Or.inl (Own.wd hw 15 rfl)) Via.refl G19_1 fun T25 X25 => ?_
  clear X19
  refine Own.aloadN X25 d3_34 rfl rfl ?_
  refine Own.getF_ X25 d3_35 (host := "") (Or.inl (Own.wd hw 37 rfl)) Via.refl G19_5 fun T26 X26 => ?_
  clear X25
  refine Own.daload_ X26 d3_38 G19_8 (by decide) rfl ?_
  refine Own.dcmpF X26 (pc' := 49) d3_39 d3_40 (by decide) n_dv n_b0 (fun q => absurd (show Own.dz dv ≤ Own.dz b0 from q) (show ¬ (Own.dz dv ≤ Own.dz b0) from by omega)) (fun _ => ?_)
  refine Own.aloadN X26 d3_43 rfl rfl ?_
  refine Own.iload X26 d3_44 rfl ?_
  refine Own.putF_ X26 d3_46 (host := "") (Or.inl (Own.wd hw 37 rfl)) Via.refl G19_5 F20 (Or.inl (Own.wd hw 38 rfl)) (Own.wd hw 2 rfl) (ty := .int) (by decide) rfl rfl fq0 fun T27 h27 X27 W27 => ?_
  have F28 := F20.wr W27
  have F29 := F21.other W27 (Ne.symm nq0)
  have F30 := F22.other W27 nq21
  have F31 := F23.wr W27 (Or.inl (List.mem_of_getElem? (i := 0) rfl))
  have F32 := G19_0.other W27 (Or.inr (slot_ne (Or.inr (Own.wd hw 13 rfl)) (Or.inl (Own.wd hw 38 rfl)) (by decide) (t := (.array (.array .int))) (t' := .int) (by decide) (by decide)))
  have F33 := G19_1.other W27 (Or.inr (slot_ne (Or.inr (Own.wd hw 16 rfl)) (Or.inl (Own.wd hw 38 rfl)) (by decide) (t := (.array .double)) (t' := .int) (by decide) (by decide)))
  have F34 := G19_2.other W27 (Or.inr (slot_ne (Or.inr (Own.wd hw 19 rfl)) (Or.inl (Own.wd hw 38 rfl)) (by decide) (t := (.array .long)) (t' := .int) (by decide) (by decide)))
  have F35 := G19_3.other W27 (Or.inr (slot_ne (Or.inl (Own.wd hw 26 rfl)) (Or.inl (Own.wd hw 38 rfl)) (by decide) (t := .int) (t' := .int) (by decide) (by decide)))
  have F36 := G19_4.other W27 (Or.inr (slot_ne (Or.inl (Own.wd hw 36 rfl)) (Or.inl (Own.wd hw 38 rfl)) (by decide) (t := .long) (t' := .int) (by decide) (by decide)))
  have F37 := G19_6.other W27 (Or.inr (slot_ne (Or.inl (Own.wd hw 40 rfl)) (Or.inl (Own.wd hw 38 rfl)) (by decide) (t := .int) (t' := .int) (by decide) (by decide)))
  have F38 := G19_7.other W27 (Ne.symm nq5)
  have F39 := G19_8.other W27 (Ne.symm nq1)
  have F40 := G19_9.other W27 (Ne.symm nq2)
  have F41 : Fld Z h27 a "com/example/allocus/allocus/method/Population" "worst" "I" (.int (2 : Int32)) := Fld.same W27 G19_5
  have Z42 : n0 ≤ h27.size := by rw [W27.size]; exact Z24
  clear F20 F21 F22 F23 G19_0 G19_1 G19_2 G19_3 G19_4 G19_5 G19_6 G19_7 G19_8 G19_9 X26
  refine Own.iload X27 d3_49 rfl ?_
  refine Own.iff_ X27 (pc' := 68) d3_51 (by decide) (fun q => absurd (show (2 : Int) = (0 : Int) from q) (show ¬ ((2 : Int) = (0 : Int)) from by decide)) (fun _ => ?_)
  refine Own.dloadN X27 d3_54 rfl ?_
  refine Own.aloadN X27 d3_55 rfl rfl ?_
  refine Own.getF_ X27 d3_56 (host := "") (Or.inl (Own.wd hw 15 rfl)) Via.refl F33 fun T43 X43 => ?_
  clear X27
  refine Own.aloadN X43 d3_59 rfl rfl ?_
  refine Own.getF_ X43 d3_60 (host := "") (Or.inl (Own.wd hw 39 rfl)) Via.refl F37 fun T44 X44 => ?_
  clear X43
  refine Own.daload_ X44 d3_63 F39 (by decide) rfl ?_
  refine Own.dcmpF X44 (pc' := 74) d3_64 d3_65 (by decide) n_dv n_b0 (fun _ => ?_) (fun q => absurd (show Own.dz b0 ≤ Own.dz dv from by omega) q)
  exact Own.retV X44 d3_74 ⟨rfl, F31, F32, F33, F34, F35, F36, F41, F37, F38, F39, F40⟩ (by decide) (by decide)
theorem ef_3_20002 (m : MethodId) (x0 : Addr) (x1 : Addr) (x2 : UInt64) : entryFrame m #[.ref x0, .ref x1, .double x2] 5 = mkF m 0 #[.val (.ref x0), .val (.ref x1), .val (.double x2), .second, .unset] [] := by first | (simp [entryFrame, mkF, argsToLocals, Value.category, maxLocals]; done) | rfl
set_option maxRecDepth 65536 in
set_option maxHeartbeats 40000000 in
theorem rm3_20002 (l : Launch) (Z : State) (a0 : Array Value) (hw : ∀ d ∈ tables_1, d.before a0 Z = true) (a : Addr) (si : Addr) (dv : UInt64) (pl : Addr) (oa : Addr) (na : Addr) (x0 : Addr) (x1 : Addr) (x2 : Addr) (k_pl : ClassId) (c_pl : ClassId) (k_oa : ClassId) (k_na : ClassId) (b0 : UInt64) (b1 : UInt64) (b2 : UInt64) (m0 : Int64) (m1 : Int64) (m2 : Int64) (eJ : Int64) (k_si : ClassId) (y0 : Int32) (u20 : Int32) (h0 : Heap) (n0 : Nat) (Z0 : n0 ≤ h0.size) (fc0 : Exa Z h0 a "com/example/allocus/allocus/method/Population") (fc1 : Fld Z h0 a "com/example/allocus/allocus/method/Population" "plans" "[[I" (.ref pl)) (fc2 : Fld Z h0 a "com/example/allocus/allocus/method/Population" "objectives" "[D" (.ref oa)) (fc3 : Fld Z h0 a "com/example/allocus/allocus/method/Population" "entered" "[J" (.ref na)) (fc4 : Fld Z h0 a "com/example/allocus/allocus/method/Population" "count" "I" (.int (2 : Int32))) (fc5 : Fld Z h0 a "com/example/allocus/allocus/method/Population" "entries" "J" (.long eJ)) (fc6 : Fld Z h0 a "com/example/allocus/allocus/method/Population" "worst" "I" (.int (0 : Int32))) (fc7 : Fld Z h0 a "com/example/allocus/allocus/method/Population" "best" "I" (.int (0 : Int32))) (fc8 : Arv Z h0 pl k_pl (.array .int) (3 : Int32) [.ref x0, .ref x1, .ref x2] (.null)) (fc9 : Arv Z h0 x2 c_pl .int (1 : Int32) [.int u20] (.int (0 : Int32))) (fc10 : Arv Z h0 oa k_oa .double (3 : Int32) [.double b0, .double b1, .double b2] (.double 0)) (fc11 : Arv Z h0 na k_na .long (3 : Int32) [.long m0, .long m1, .long m2] (.long (0 : Int64))) (fc12 : Arv Z h0 si k_si .int (1 : Int32) [.int y0] (.int (0 : Int32))) (nq0 : a ≠ pl) (nq1 : a ≠ oa) (nq2 : a ≠ na) (nq3 : a ≠ x0) (nq4 : a ≠ x1) (nq5 : a ≠ x2) (nq6 : pl ≠ oa) (nq7 : pl ≠ na) (nq8 : pl ≠ x0) (nq9 : pl ≠ x1) (nq10 : pl ≠ x2) (nq11 : oa ≠ na) (nq12 : oa ≠ x0) (nq13 : oa ≠ x1) (nq14 : oa ≠ x2) (nq15 : na ≠ x0) (nq16 : na ≠ x1) (nq17 : na ≠ x2) (nq18 : x0 ≠ x1) (nq19 : x0 ≠ x2) (nq20 : x1 ≠ x2) (nq21 : si ≠ a) (nq22 : si ≠ pl) (nq23 : si ≠ oa) (nq24 : si ≠ na) (nq25 : si ≠ x0) (nq26 : si ≠ x1) (nq27 : si ≠ x2) (fq0 : n0 ≤ a) (fq1 : n0 ≤ x0) (fq2 : n0 ≤ x1) (fq3 : n0 ≤ x2) (fq4 : n0 ≤ oa) (fq5 : n0 ≤ na) (n_dv : NoNaN64 dv) (n_b0 : NoNaN64 b0) (c1 : Own.dz dv ≤ Own.dz b0) (c2 : Own.dz dv < Own.dz b0) :
    Own.Con l Z mn_3 [] prog_48_method_5_code 5 none ({ frames := 2, cells := 0, slots := 0, locals := 48 } : Room) #[.ref a, .ref si, .double dv] h0 n0 (fun v h => v = none ∧ Keep h0 h [a, x2, oa, na] ∧ Fld Z h a "com/example/allocus/allocus/method/Population" "plans" "[[I" (.ref pl) ∧ Fld Z h a "com/example/allocus/allocus/method/Population" "objectives" "[D" (.ref oa) ∧ Fld Z h a "com/example/allocus/allocus/method/Population" "entered" "[J" (.ref na) ∧ Fld Z h a "com/example/allocus/allocus/method/Population" "count" "I" (.int (3 : Int32)) ∧ Fld Z h a "com/example/allocus/allocus/method/Population" "entries" "J" (.long (eJ + (1 : Int64))) ∧ Fld Z h a "com/example/allocus/allocus/method/Population" "worst" "I" (.int (0 : Int32)) ∧ Fld Z h a "com/example/allocus/allocus/method/Population" "best" "I" (.int (2 : Int32)) ∧ Arv Z h x2 c_pl .int (1 : Int32) [.int y0] (.int (0 : Int32)) ∧ Arv Z h oa k_oa .double (3 : Int32) [.double b0, .double b1, .double dv] (.double 0) ∧ Arv Z h na k_na .long (3 : Int32) [.long m0, .long m1, .long eJ] (.long (0 : Int64))) := by
  refine Own.enter (own := "com/example/allocus/allocus/method/Population") (nm := "add") (plainFor_of_name pn_com_example_allocus_allocus_method_Population) rfl rfl (fun m => ef_3_20002 m a si dv) fun p e s m below meth c T X => ?_
  refine Own.aloadN X d3_0 rfl rfl ?_
  refine Own.getF_ X d3_1 (host := "") (Or.inl (Own.wd hw 25 rfl)) Via.refl fc4 fun T1 X1 => ?_
  clear X
  refine Own.istore X1 d3_4 (l' := #[.val (.ref a), .val (.ref si), .val (.double dv), .second, .val (.int (2 : Int32))]) rfl ?_
  refine Own.aloadN X1 d3_6 rfl rfl ?_
  refine Own.dup X1 d3_7 rfl ?_
  refine Own.getF_ X1 d3_8 (host := "") (Or.inl (Own.wd hw 25 rfl)) Via.refl fc4 fun T2 X2 => ?_
  clear X1
  refine Own.iconst X2 (v := 1) d3_11 rfl ?_
  refine Own.iadd X2 d3_12 ?_
  show Own.Go p e below s n0 _ _ _ (T2.setTop (mkF m 13 _ [.int (3 : Int32), .ref a]))
  refine Own.putF_ X2 d3_13 (host := "") (Or.inl (Own.wd hw 25 rfl)) Via.refl fc4 fc0 (Or.inl (Own.wd hw 26 rfl)) (Own.wd hw 2 rfl) (ty := .int) (by decide) rfl rfl fq0 fun T3 h3 X3 W3 => ?_
  have F4 := fc0.wr W3
  have F5 := fc1.other W3 (Or.inr (slot_ne (Or.inr (Own.wd hw 13 rfl)) (Or.inl (Own.wd hw 26 rfl)) (by decide) (t := (.array (.array .int))) (t' := .int) (by decide) (by decide)))
  have F6 := fc2.other W3 (Or.inr (slot_ne (Or.inr (Own.wd hw 16 rfl)) (Or.inl (Own.wd hw 26 rfl)) (by decide) (t := (.array .double)) (t' := .int) (by decide) (by decide)))
  have F7 := fc3.other W3 (Or.inr (slot_ne (Or.inr (Own.wd hw 19 rfl)) (Or.inl (Own.wd hw 26 rfl)) (by decide) (t := (.array .long)) (t' := .int) (by decide) (by decide)))
  have F8 := fc5.other W3 (Or.inr (slot_ne (Or.inl (Own.wd hw 36 rfl)) (Or.inl (Own.wd hw 26 rfl)) (by decide) (t := .long) (t' := .int) (by decide) (by decide)))
  have F9 := fc6.other W3 (Or.inr (slot_ne (Or.inl (Own.wd hw 38 rfl)) (Or.inl (Own.wd hw 26 rfl)) (by decide) (t := .int) (t' := .int) (by decide) (by decide)))
  have F10 := fc7.other W3 (Or.inr (slot_ne (Or.inl (Own.wd hw 40 rfl)) (Or.inl (Own.wd hw 26 rfl)) (by decide) (t := .int) (t' := .int) (by decide) (by decide)))
  have F11 := fc8.other W3 (Ne.symm nq0)
  have F12 := fc9.other W3 (Ne.symm nq5)
  have F13 := fc10.other W3 (Ne.symm nq1)
  have F14 := fc11.other W3 (Ne.symm nq2)
  have F15 := fc12.other W3 nq21
  have F16 := (Keep.refl h0 [a, x2, oa, na]).wr W3 (Or.inl (List.mem_of_getElem? (i := 0) rfl))
  have F17 : Fld Z h3 a "com/example/allocus/allocus/method/Population" "count" "I" (.int (3 : Int32)) := Fld.same W3 fc4
  have Z18 : n0 ≤ h3.size := by rw [W3.size]; exact Z0
  clear X2 fc0 fc1 fc10 fc11 fc12 fc2 fc3 fc4 fc5 fc6 fc7 fc8 fc9
  refine Own.aloadN X3 d3_16 rfl rfl ?_
  refine Own.iload X3 d3_17 rfl ?_
  refine Own.aloadN X3 d3_19 rfl rfl ?_
  refine Own.dloadN X3 d3_20 rfl ?_
  refine Own.callP_ (y := mn_1) (D := "com/example/allocus/allocus/method/Population") (z' := mn_3) (z := mn_3) (a := a) X3 d3_21 (Own.wd hw 27 rfl) (Own.wd hw 28 rfl) (Own.wd hw 23 rfl) rfl (Own.wd hw 29 rfl) (Own.wd hw 3 rfl) (Own.wd hw 30 rfl) (by decide) F4 (rm4_2 l Z a0 hw a si dv pl oa na x0 x1 x2 k_pl c_pl k_oa k_na b0 b1 b2 m0 m1 m2 eJ k_si y0 u20 (3 : Int32) (0 : Int32) (0 : Int32) h3 n0 Z18 F4 F5 F6 F7 F17 F8 F9 F10 F11 F12 F13 F14 F15 nq0 nq1 nq2 nq3 nq4 nq5 nq6 nq7 nq8 nq9 nq10 nq11 nq12 nq13 nq14 nq15 nq16 nq17 nq18 nq19 nq20 nq21 nq22 nq23 nq24 nq25 nq26 nq27 fq0 fq1 fq2 fq3 fq4 fq5 ) (lenOf pd_2 rfl) rfl (argsL := [.int (2 : Int32), .ref si, .double dv]) (rest := []) rfl (W := 0) (Nat.le_of_eq rfl) (by decide) (by decide) (by decide) (by decide) fun T19 h19 v19 X19 q19 => ?_
  obtain ⟨rfl, K19, G19_0, G19_1, G19_2, G19_3, G19_4, G19_5, G19_6, G19_7, G19_8, G19_9⟩ := q19
  have F20 := F4.keep K19
  have F21 := F11.keep K19 (ninS (Ne.symm nq0) (ninS nq10 (ninS nq6 (ninS nq7 nin0))))
  have F22 := F15.keep K19 (ninS nq21 (ninS nq27 (ninS nq23 (ninS nq24 nin0))))
  have F23 := F16.trans K19 (allS (Or.inl (List.mem_of_getElem? (i := 0) rfl)) (allS (Or.inl (List.mem_of_getElem? (i := 1) rfl)) (allS (Or.inl (List.mem_of_getElem? (i := 2) rfl)) (allS (Or.inl (List.mem_of_getElem? (i := 3) rfl)) all0))))
  have Z24 : n0 ≤ h19.size := Nat.le_trans Z18 K19.1
  show Own.Go p e below s n0 _ _ _ (T19.setTop (mkF m 24 _ []))
  clear F10 F11 F12 F13 F14 F15 F16 F17 F4 F5 F6 F7 F8 F9 X3
  refine Own.iload X19 d3_24 rfl ?_
  refine Own.iff_ X19 (pc' := 43) d3_26 (by decide) (fun q => absurd (show (2 : Int) = (0 : Int) from q) (show ¬ ((2 : Int) = (0 : Int)) from by decide)) (fun _ => ?_)
  refine Own.dloadN X19 d3_29 rfl ?_
  refine Own.aloadN X19 d3_30 rfl rfl ?_
  refine Own.getF_ X19 d3_31 (host := "") (Or.inl (Own.wd hw 15 rfl)) Via.refl G19_1 fun T25 X25 => ?_
  clear X19
  refine Own.aloadN X25 d3_34 rfl rfl ?_
  refine Own.getF_ X25 d3_35 (host := "") (Or.inl (Own.wd hw 37 rfl)) Via.refl G19_5 fun T26 X26 => ?_
  clear X25
  refine Own.daload_ X26 d3_38 G19_8 (by decide) rfl ?_
  refine Own.dcmpF X26 (pc' := 49) d3_39 d3_40 (by decide) n_dv n_b0 (fun _ => ?_) (fun q => absurd (show Own.dz dv ≤ Own.dz b0 from by omega) q)
  refine Own.iload X26 d3_49 rfl ?_
  refine Own.iff_ X26 (pc' := 68) d3_51 (by decide) (fun q => absurd (show (2 : Int) = (0 : Int) from q) (show ¬ ((2 : Int) = (0 : Int)) from by decide)) (fun _ => ?_)
  refine Own.dloadN X26 d3_54 rfl ?_
  refine Own.aloadN X26 d3_55 rfl rfl ?_
  refine Own.getF_ X26 d3_56 (host := "") (Or.inl (Own.wd hw 15 rfl)) Via.refl G19_1 fun T27 X27 => ?_
  clear X26
  refine Own.aloadN X27 d3_59 rfl rfl ?_
  refine Own.getF_ X27 d3_60 (host := "") (Or.inl (Own.wd hw 39 rfl)) Via.refl G19_6 fun T28 X28 => ?_
  clear X27
  refine Own.daload_ X28 d3_63 G19_8 (by decide) rfl ?_
  refine Own.dcmpF X28 (pc' := 74) d3_64 d3_65 (by decide) n_dv n_b0 (fun q => absurd (show Own.dz b0 ≤ Own.dz dv from q) (show ¬ (Own.dz b0 ≤ Own.dz dv) from by omega)) (fun _ => ?_)
  refine Own.aloadN X28 d3_68 rfl rfl ?_
  refine Own.iload X28 d3_69 rfl ?_
  refine Own.putF_ X28 d3_71 (host := "") (Or.inl (Own.wd hw 39 rfl)) Via.refl G19_6 F20 (Or.inl (Own.wd hw 40 rfl)) (Own.wd hw 2 rfl) (ty := .int) (by decide) rfl rfl fq0 fun T29 h29 X29 W29 => ?_
  have F30 := F20.wr W29
  have F31 := F21.other W29 (Ne.symm nq0)
  have F32 := F22.other W29 nq21
  have F33 := F23.wr W29 (Or.inl (List.mem_of_getElem? (i := 0) rfl))
  have F34 := G19_0.other W29 (Or.inr (slot_ne (Or.inr (Own.wd hw 13 rfl)) (Or.inl (Own.wd hw 40 rfl)) (by decide) (t := (.array (.array .int))) (t' := .int) (by decide) (by decide)))
  have F35 := G19_1.other W29 (Or.inr (slot_ne (Or.inr (Own.wd hw 16 rfl)) (Or.inl (Own.wd hw 40 rfl)) (by decide) (t := (.array .double)) (t' := .int) (by decide) (by decide)))
  have F36 := G19_2.other W29 (Or.inr (slot_ne (Or.inr (Own.wd hw 19 rfl)) (Or.inl (Own.wd hw 40 rfl)) (by decide) (t := (.array .long)) (t' := .int) (by decide) (by decide)))
  have F37 := G19_3.other W29 (Or.inr (slot_ne (Or.inl (Own.wd hw 26 rfl)) (Or.inl (Own.wd hw 40 rfl)) (by decide) (t := .int) (t' := .int) (by decide) (by decide)))
  have F38 := G19_4.other W29 (Or.inr (slot_ne (Or.inl (Own.wd hw 36 rfl)) (Or.inl (Own.wd hw 40 rfl)) (by decide) (t := .long) (t' := .int) (by decide) (by decide)))
  have F39 := G19_5.other W29 (Or.inr (slot_ne (Or.inl (Own.wd hw 38 rfl)) (Or.inl (Own.wd hw 40 rfl)) (by decide) (t := .int) (t' := .int) (by decide) (by decide)))
  have F40 := G19_7.other W29 (Ne.symm nq5)
  have F41 := G19_8.other W29 (Ne.symm nq1)
  have F42 := G19_9.other W29 (Ne.symm nq2)
  have F43 : Fld Z h29 a "com/example/allocus/allocus/method/Population" "best" "I" (.int (2 : Int32)) := Fld.same W29 G19_6
  have Z44 : n0 ≤ h29.size := by rw [W29.size]; exact Z24
  clear F20 F21 F22 F23 G19_0 G19_1 G19_2 G19_3 G19_4 G19_5 G19_6 G19_7 G19_8 G19_9 X28
  exact Own.retV X29 d3_74 ⟨rfl, F33, F34, F35, F36, F37, F38, F39, F43, F40, F41, F42⟩ (by decide) (by decide)
theorem ef_3_20000 (m : MethodId) (x0 : Addr) (x1 : Addr) (x2 : UInt64) : entryFrame m #[.ref x0, .ref x1, .double x2] 5 = mkF m 0 #[.val (.ref x0), .val (.ref x1), .val (.double x2), .second, .unset] [] := by first | (simp [entryFrame, mkF, argsToLocals, Value.category, maxLocals]; done) | rfl
set_option maxRecDepth 65536 in
set_option maxHeartbeats 40000000 in
theorem rm3_20000 (l : Launch) (Z : State) (a0 : Array Value) (hw : ∀ d ∈ tables_1, d.before a0 Z = true) (a : Addr) (si : Addr) (dv : UInt64) (pl : Addr) (oa : Addr) (na : Addr) (x0 : Addr) (x1 : Addr) (x2 : Addr) (k_pl : ClassId) (c_pl : ClassId) (k_oa : ClassId) (k_na : ClassId) (b0 : UInt64) (b1 : UInt64) (b2 : UInt64) (m0 : Int64) (m1 : Int64) (m2 : Int64) (eJ : Int64) (k_si : ClassId) (y0 : Int32) (u20 : Int32) (h0 : Heap) (n0 : Nat) (Z0 : n0 ≤ h0.size) (fc0 : Exa Z h0 a "com/example/allocus/allocus/method/Population") (fc1 : Fld Z h0 a "com/example/allocus/allocus/method/Population" "plans" "[[I" (.ref pl)) (fc2 : Fld Z h0 a "com/example/allocus/allocus/method/Population" "objectives" "[D" (.ref oa)) (fc3 : Fld Z h0 a "com/example/allocus/allocus/method/Population" "entered" "[J" (.ref na)) (fc4 : Fld Z h0 a "com/example/allocus/allocus/method/Population" "count" "I" (.int (2 : Int32))) (fc5 : Fld Z h0 a "com/example/allocus/allocus/method/Population" "entries" "J" (.long eJ)) (fc6 : Fld Z h0 a "com/example/allocus/allocus/method/Population" "worst" "I" (.int (0 : Int32))) (fc7 : Fld Z h0 a "com/example/allocus/allocus/method/Population" "best" "I" (.int (0 : Int32))) (fc8 : Arv Z h0 pl k_pl (.array .int) (3 : Int32) [.ref x0, .ref x1, .ref x2] (.null)) (fc9 : Arv Z h0 x2 c_pl .int (1 : Int32) [.int u20] (.int (0 : Int32))) (fc10 : Arv Z h0 oa k_oa .double (3 : Int32) [.double b0, .double b1, .double b2] (.double 0)) (fc11 : Arv Z h0 na k_na .long (3 : Int32) [.long m0, .long m1, .long m2] (.long (0 : Int64))) (fc12 : Arv Z h0 si k_si .int (1 : Int32) [.int y0] (.int (0 : Int32))) (nq0 : a ≠ pl) (nq1 : a ≠ oa) (nq2 : a ≠ na) (nq3 : a ≠ x0) (nq4 : a ≠ x1) (nq5 : a ≠ x2) (nq6 : pl ≠ oa) (nq7 : pl ≠ na) (nq8 : pl ≠ x0) (nq9 : pl ≠ x1) (nq10 : pl ≠ x2) (nq11 : oa ≠ na) (nq12 : oa ≠ x0) (nq13 : oa ≠ x1) (nq14 : oa ≠ x2) (nq15 : na ≠ x0) (nq16 : na ≠ x1) (nq17 : na ≠ x2) (nq18 : x0 ≠ x1) (nq19 : x0 ≠ x2) (nq20 : x1 ≠ x2) (nq21 : si ≠ a) (nq22 : si ≠ pl) (nq23 : si ≠ oa) (nq24 : si ≠ na) (nq25 : si ≠ x0) (nq26 : si ≠ x1) (nq27 : si ≠ x2) (fq0 : n0 ≤ a) (fq1 : n0 ≤ x0) (fq2 : n0 ≤ x1) (fq3 : n0 ≤ x2) (fq4 : n0 ≤ oa) (fq5 : n0 ≤ na) (n_dv : NoNaN64 dv) (n_b0 : NoNaN64 b0) (c1 : Own.dz dv ≤ Own.dz b0) (c2 : Own.dz b0 ≤ Own.dz dv) :
    Own.Con l Z mn_3 [] prog_48_method_5_code 5 none ({ frames := 2, cells := 0, slots := 0, locals := 48 } : Room) #[.ref a, .ref si, .double dv] h0 n0 (fun v h => v = none ∧ Keep h0 h [a, x2, oa, na] ∧ Fld Z h a "com/example/allocus/allocus/method/Population" "plans" "[[I" (.ref pl) ∧ Fld Z h a "com/example/allocus/allocus/method/Population" "objectives" "[D" (.ref oa) ∧ Fld Z h a "com/example/allocus/allocus/method/Population" "entered" "[J" (.ref na) ∧ Fld Z h a "com/example/allocus/allocus/method/Population" "count" "I" (.int (3 : Int32)) ∧ Fld Z h a "com/example/allocus/allocus/method/Population" "entries" "J" (.long (eJ + (1 : Int64))) ∧ Fld Z h a "com/example/allocus/allocus/method/Population" "worst" "I" (.int (0 : Int32)) ∧ Fld Z h a "com/example/allocus/allocus/method/Population" "best" "I" (.int (0 : Int32)) ∧ Arv Z h x2 c_pl .int (1 : Int32) [.int y0] (.int (0 : Int32)) ∧ Arv Z h oa k_oa .double (3 : Int32) [.double b0, .double b1, .double dv] (.double 0) ∧ Arv Z h na k_na .long (3 : Int32) [.long m0, .long m1, .long eJ] (.long (0 : Int64))) := by
  refine Own.enter (own := "com/example/allocus/allocus/method/Population") (nm := "add") (plainFor_of_name pn_com_example_allocus_allocus_method_Population) rfl rfl (fun m => ef_3_20000 m a si dv) fun p e s m below meth c T X => ?_
  refine Own.aloadN X d3_0 rfl rfl ?_
  refine Own.getF_ X d3_1 (host := "") (Or.inl (Own.wd hw 25 rfl)) Via.refl fc4 fun T1 X1 => ?_
  clear X
  refine Own.istore X1 d3_4 (l' := #[.val (.ref a), .val (.ref si), .val (.double dv), .second, .val (.int (2 : Int32))]) rfl ?_
  refine Own.aloadN X1 d3_6 rfl rfl ?_
  refine Own.dup X1 d3_7 rfl ?_
  refine Own.getF_ X1 d3_8 (host := "") (Or.inl (Own.wd hw 25 rfl)) Via.refl fc4 fun T2 X2 => ?_
  clear X1
  refine Own.iconst X2 (v := 1) d3_11 rfl ?_
  refine Own.iadd X2 d3_12 ?_
  show Own.Go p e below s n0 _ _ _ (T2.setTop (mkF m 13 _ [.int (3 : Int32), .ref a]))
  refine Own.putF_ X2 d3_13 (host := "") (Or.inl (Own.wd hw 25 rfl)) Via.refl fc4 fc0 (Or.inl (Own.wd hw 26 rfl)) (Own.wd hw 2 rfl) (ty := .int) (by decide) rfl rfl fq0 fun T3 h3 X3 W3 => ?_
  have F4 := fc0.wr W3
  have F5 := fc1.other W3 (Or.inr (slot_ne (Or.inr (Own.wd hw 13 rfl)) (Or.inl (Own.wd hw 26 rfl)) (by decide) (t := (.array (.array .int))) (t' := .int) (by decide) (by decide)))
  have F6 := fc2.other W3 (Or.inr (slot_ne (Or.inr (Own.wd hw 16 rfl)) (Or.inl (Own.wd hw 26 rfl)) (by decide) (t := (.array .double)) (t' := .int) (by decide) (by decide)))
  have F7 := fc3.other W3 (Or.inr (slot_ne (Or.inr (Own.wd hw 19 rfl)) (Or.inl (Own.wd hw 26 rfl)) (by decide) (t := (.array .long)) (t' := .int) (by decide) (by decide)))
  have F8 := fc5.other W3 (Or.inr (slot_ne (Or.inl (Own.wd hw 36 rfl)) (Or.inl (Own.wd hw 26 rfl)) (by decide) (t := .long) (t' := .int) (by decide) (by decide)))
  have F9 := fc6.other W3 (Or.inr (slot_ne (Or.inl (Own.wd hw 38 rfl)) (Or.inl (Own.wd hw 26 rfl)) (by decide) (t := .int) (t' := .int) (by decide) (by decide)))
  have F10 := fc7.other W3 (Or.inr (slot_ne (Or.inl (Own.wd hw 40 rfl)) (Or.inl (Own.wd hw 26 rfl)) (by decide) (t := .int) (t' := .int) (by decide) (by decide)))
  have F11 := fc8.other W3 (Ne.symm nq0)
  have F12 := fc9.other W3 (Ne.symm nq5)
  have F13 := fc10.other W3 (Ne.symm nq1)
  have F14 := fc11.other W3 (Ne.symm nq2)
  have F15 := fc12.other W3 nq21
  have F16 := (Keep.refl h0 [a, x2, oa, na]).wr W3 (Or.inl (List.mem_of_getElem? (i := 0) rfl))
  have F17 : Fld Z h3 a "com/example/allocus/allocus/method/Population" "count" "I" (.int (3 : Int32)) := Fld.same W3 fc4
  have Z18 : n0 ≤ h3.size := by rw [W3.size]; exact Z0
  clear X2 fc0 fc1 fc10 fc11 fc12 fc2 fc3 fc4 fc5 fc6 fc7 fc8 fc9
  refine Own.aloadN X3 d3_16 rfl rfl ?_
  refine Own.iload X3 d3_17 rfl ?_
  refine Own.aloadN X3 d3_19 rfl rfl ?_
  refine Own.dloadN X3 d3_20 rfl ?_
  refine Own.callP_ (y := mn_1) (D := "com/example/allocus/allocus/method/Population") (z' := mn_3) (z := mn_3) (a := a) X3 d3_21 (Own.wd hw 27 rfl) (Own.wd hw 28 rfl) (Own.wd hw 23 rfl) rfl (Own.wd hw 29 rfl) (Own.wd hw 3 rfl) (Own.wd hw 30 rfl) (by decide) F4 (rm4_2 l Z a0 hw a si dv pl oa na x0 x1 x2 k_pl c_pl k_oa k_na b0 b1 b2 m0 m1 m2 eJ k_si y0 u20 (3 : Int32) (0 : Int32) (0 : Int32) h3 n0 Z18 F4 F5 F6 F7 F17 F8 F9 F10 F11 F12 F13 F14 F15 nq0 nq1 nq2 nq3 nq4 nq5 nq6 nq7 nq8 nq9 nq10 nq11 nq12 nq13 nq14 nq15 nq16 nq17 nq18 nq19 nq20 nq21 nq22 nq23 nq24 nq25 nq26 nq27 fq0 fq1 fq2 fq3 fq4 fq5 ) (lenOf pd_2 rfl) rfl (argsL := [.int (2 : Int32), .ref si, .double dv]) (rest := []) rfl (W := 0) (Nat.le_of_eq rfl) (by decide) (by decide) (by decide) (by decide) fun T19 h19 v19 X19 q19 => ?_
  obtain ⟨rfl, K19, G19_0, G19_1, G19_2, G19_3, G19_4, G19_5, G19_6, G19_7, G19_8, G19_9⟩ := q19
  have F20 := F4.keep K19
  have F21 := F11.keep K19 (ninS (Ne.symm nq0) (ninS nq10 (ninS nq6 (ninS nq7 nin0))))
  have F22 := F15.keep K19 (ninS nq21 (ninS nq27 (ninS nq23 (ninS nq24 nin0))))
  have F23 := F16.trans K19 (allS (Or.inl (List.mem_of_getElem? (i := 0) rfl)) (allS (Or.inl (List.mem_of_getElem? (i := 1) rfl)) (allS (Or.inl (List.mem_of_getElem? (i := 2) rfl)) (allS (Or.inl (List.mem_of_getElem? (i := 3) rfl)) all0))))
  have Z24 : n0 ≤ h19.size := Nat.le_trans Z18 K19.1
  show Own.Go p e below s n0 _ _ _ (T19.setTop (mkF m 24 _ []))
  clear F10 F11 F12 F13 F14 F15 F16 F17 F4 F5 F6 F7 F8 F9 X3
  refine Own.iload X19 d3_24 rfl ?_
  refine Own.iff_ X19 (pc' := 43) d3_26 (by decide) (fun q => absurd (show (2 : Int) = (0 : Int) from q) (show ¬ ((2 : Int) = (0 : Int)) from by decide)) (fun _ => ?_)
  refine Own.dloadN X19 d3_29 rfl ?_
  refine Own.aloadN X19 d3_30 rfl rfl ?_
  refine Own.getF_ X19 d3_31 (host := "") (Or.inl (Own.wd hw 15 rfl)) Via.refl G19_1 fun T25 X25 => ?_
  clear X19
  refine Own.aloadN X25 d3_34 rfl rfl ?_
  refine Own.getF_ X25 d3_35 (host := "") (Or.inl (Own.wd hw 37 rfl)) Via.refl G19_5 fun T26 X26 => ?_
  clear X25
  refine Own.daload_ X26 d3_38 G19_8 (by decide) rfl ?_
  refine Own.dcmpF X26 (pc' := 49) d3_39 d3_40 (by decide) n_dv n_b0 (fun _ => ?_) (fun q => absurd (show Own.dz dv ≤ Own.dz b0 from by omega) q)
  refine Own.iload X26 d3_49 rfl ?_
  refine Own.iff_ X26 (pc' := 68) d3_51 (by decide) (fun q => absurd (show (2 : Int) = (0 : Int) from q) (show ¬ ((2 : Int) = (0 : Int)) from by decide)) (fun _ => ?_)
  refine Own.dloadN X26 d3_54 rfl ?_
  refine Own.aloadN X26 d3_55 rfl rfl ?_
  refine Own.getF_ X26 d3_56 (host := "") (Or.inl (Own.wd hw 15 rfl)) Via.refl G19_1 fun T27 X27 => ?_
  clear X26
  refine Own.aloadN X27 d3_59 rfl rfl ?_
  refine Own.getF_ X27 d3_60 (host := "") (Or.inl (Own.wd hw 39 rfl)) Via.refl G19_6 fun T28 X28 => ?_
  clear X27
  refine Own.daload_ X28 d3_63 G19_8 (by decide) rfl ?_
  refine Own.dcmpF X28 (pc' := 74) d3_64 d3_65 (by decide) n_dv n_b0 (fun _ => ?_) (fun q => absurd (show Own.dz b0 ≤ Own.dz dv from by omega) q)
  exact Own.retV X28 d3_74 ⟨rfl, F23, G19_0, G19_1, G19_2, G19_3, G19_4, G19_5, G19_6, G19_7, G19_8, G19_9⟩ (by decide) (by decide)
theorem ef_5_0 (m : MethodId) (x0 : Addr) : entryFrame m #[.ref x0] 1 = mkF m 0 #[.val (.ref x0)] [] := by first | (simp [entryFrame, mkF, argsToLocals, Value.category, maxLocals]; done) | rfl
set_option maxRecDepth 65536 in
set_option maxHeartbeats 40000000 in
theorem rm5_0 (l : Launch) (Z : State) (a0 : Array Value) (hw : ∀ d ∈ tables_1, d.before a0 Z = true) (a : Addr) (pl : Addr) (x0 : Addr) (x1 : Addr) (x2 : Addr) (k_pl : ClassId) (c_pl : ClassId) (u00 : Int32) (h0 : Heap) (n0 : Nat) (Z0 : n0 ≤ h0.size) (fc0 : Fld Z h0 a "com/example/allocus/allocus/method/Population" "plans" "[[I" (.ref pl)) (fc1 : Fld Z h0 a "com/example/allocus/allocus/method/Population" "best" "I" (.int (0 : Int32))) (fc2 : Arv Z h0 pl k_pl (.array .int) (3 : Int32) [.ref x0, .ref x1, .ref x2] (.null)) (fc3 : Arv Z h0 x0 c_pl .int (1 : Int32) [.int u00] (.int (0 : Int32))) (fc4 : Exa Z h0 x0 "[I")  :
    Own.Con l Z mn_4 [] prog_48_method_8_code 1 (some (.array .int)) ({ frames := 1, cells := 1, slots := 1, locals := 14 } : Room) #[.ref a] h0 n0 (fun v h => ∃ (cl : Addr), v = some (.ref cl) ∧ Keep h0 h [] ∧ h0.size ≤ cl ∧ Arv Z h cl c_pl .int (1 : Int32) [.int u00] (.int (0 : Int32))) := by
  refine Own.enter (own := "com/example/allocus/allocus/method/Population") (nm := "best") (plainFor_of_name pn_com_example_allocus_allocus_method_Population) rfl rfl (fun m => ef_5_0 m a) fun p e s m below meth c T X => ?_
  refine Own.aloadN X d5_0 rfl rfl ?_
  refine Own.getF_ X d5_1 (host := "") (Or.inl (Own.wd hw 12 rfl)) Via.refl fc0 fun T1 X1 => ?_
  clear X
  refine Own.aloadN X1 d5_4 rfl rfl ?_
  refine Own.getF_ X1 d5_5 (host := "") (Or.inl (Own.wd hw 39 rfl)) Via.refl fc1 fun T2 X2 => ?_
  clear X1
  refine Own.aaload_ X2 d5_8 fc2 rfl (by decide) rfl ?_
  refine Own.clone_ X2 (cap := 1) d5_9 (Own.wd hw 46 rfl) (Own.wd hw 47 rfl) (Own.wd hw 51 rfl) (Own.wd hw 49 rfl) (Own.wd hw 50 rfl) (Own.wd hw 52 rfl) fc3 fc4 rfl (by decide) (W := 0) (Nat.le_of_eq rfl) (by decide) (by decide) (by decide) (by decide) fun T3 h3 cl g_cl X3 E3 V3 A3 => ?_
  have ne4 : a ≠ cl := Nat.ne_of_lt (Nat.lt_of_lt_of_le fc0.lt (Nat.le_of_eq g_cl.symm))
  have ne5 : pl ≠ cl := Nat.ne_of_lt (Nat.lt_of_lt_of_le fc2.lt (Nat.le_of_eq g_cl.symm))
  have ne6 : x0 ≠ cl := Nat.ne_of_lt (Nat.lt_of_lt_of_le fc3.lt (Nat.le_of_eq g_cl.symm))
  have fr7 : n0 ≤ cl := Nat.le_trans Z0 (Nat.le_of_eq g_cl.symm)
  have bn8 : h0.size ≤ cl := Nat.le_trans (Keep.refl h0 []).1 (Nat.le_of_eq g_cl.symm)
  have F9 := fc0.ext E3
  have F10 := fc1.ext E3
  have F11 := fc2.ext E3
  have F12 := fc3.ext E3
  have F13 := fc4.ext E3
  have F14 := (Keep.refl h0 []).ext E3
  have Z15 : n0 ≤ h3.size := Nat.le_trans Z0 E3.1
  clear X2 fc0 fc1 fc2 fc3 fc4
  refine Own.cast_ X3 d5_12 (Own.wd hw 53 rfl) (Ins.self A3) fun T16 X16 => ?_
  clear X3
  exact Own.retA X16 d5_15 rfl rfl rfl ⟨cl, rfl, F14, bn8, V3⟩ (by decide) (by decide)
theorem ef_5_1 (m : MethodId) (x0 : Addr) : entryFrame m #[.ref x0] 1 = mkF m 0 #[.val (.ref x0)] [] := by first | (simp [entryFrame, mkF, argsToLocals, Value.category, maxLocals]; done) | rfl
set_option maxRecDepth 65536 in
set_option maxHeartbeats 40000000 in
theorem rm5_1 (l : Launch) (Z : State) (a0 : Array Value) (hw : ∀ d ∈ tables_1, d.before a0 Z = true) (a : Addr) (pl : Addr) (x0 : Addr) (x1 : Addr) (x2 : Addr) (k_pl : ClassId) (c_pl : ClassId) (u10 : Int32) (h0 : Heap) (n0 : Nat) (Z0 : n0 ≤ h0.size) (fc0 : Fld Z h0 a "com/example/allocus/allocus/method/Population" "plans" "[[I" (.ref pl)) (fc1 : Fld Z h0 a "com/example/allocus/allocus/method/Population" "best" "I" (.int (1 : Int32))) (fc2 : Arv Z h0 pl k_pl (.array .int) (3 : Int32) [.ref x0, .ref x1, .ref x2] (.null)) (fc3 : Arv Z h0 x1 c_pl .int (1 : Int32) [.int u10] (.int (0 : Int32))) (fc4 : Exa Z h0 x1 "[I")  :
    Own.Con l Z mn_4 [] prog_48_method_8_code 1 (some (.array .int)) ({ frames := 1, cells := 1, slots := 1, locals := 14 } : Room) #[.ref a] h0 n0 (fun v h => ∃ (cl : Addr), v = some (.ref cl) ∧ Keep h0 h [] ∧ h0.size ≤ cl ∧ Arv Z h cl c_pl .int (1 : Int32) [.int u10] (.int (0 : Int32))) := by
  refine Own.enter (own := "com/example/allocus/allocus/method/Population") (nm := "best") (plainFor_of_name pn_com_example_allocus_allocus_method_Population) rfl rfl (fun m => ef_5_1 m a) fun p e s m below meth c T X => ?_
  refine Own.aloadN X d5_0 rfl rfl ?_
  refine Own.getF_ X d5_1 (host := "") (Or.inl (Own.wd hw 12 rfl)) Via.refl fc0 fun T1 X1 => ?_
  clear X
  refine Own.aloadN X1 d5_4 rfl rfl ?_
  refine Own.getF_ X1 d5_5 (host := "") (Or.inl (Own.wd hw 39 rfl)) Via.refl fc1 fun T2 X2 => ?_
  clear X1
  refine Own.aaload_ X2 d5_8 fc2 rfl (by decide) rfl ?_
  refine Own.clone_ X2 (cap := 1) d5_9 (Own.wd hw 46 rfl) (Own.wd hw 47 rfl) (Own.wd hw 51 rfl) (Own.wd hw 49 rfl) (Own.wd hw 50 rfl) (Own.wd hw 52 rfl) fc3 fc4 rfl (by decide) (W := 0) (Nat.le_of_eq rfl) (by decide) (by decide) (by decide) (by decide) fun T3 h3 cl g_cl X3 E3 V3 A3 => ?_
  have ne4 : a ≠ cl := Nat.ne_of_lt (Nat.lt_of_lt_of_le fc0.lt (Nat.le_of_eq g_cl.symm))
  have ne5 : pl ≠ cl := Nat.ne_of_lt (Nat.lt_of_lt_of_le fc2.lt (Nat.le_of_eq g_cl.symm))
  have ne6 : x1 ≠ cl := Nat.ne_of_lt (Nat.lt_of_lt_of_le fc3.lt (Nat.le_of_eq g_cl.symm))
  have fr7 : n0 ≤ cl := Nat.le_trans Z0 (Nat.le_of_eq g_cl.symm)
  have bn8 : h0.size ≤ cl := Nat.le_trans (Keep.refl h0 []).1 (Nat.le_of_eq g_cl.symm)
  have F9 := fc0.ext E3
  have F10 := fc1.ext E3
  have F11 := fc2.ext E3
  have F12 := fc3.ext E3
  have F13 := fc4.ext E3
  have F14 := (Keep.refl h0 []).ext E3
  have Z15 : n0 ≤ h3.size := Nat.le_trans Z0 E3.1
  clear X2 fc0 fc1 fc2 fc3 fc4
  refine Own.cast_ X3 d5_12 (Own.wd hw 53 rfl) (Ins.self A3) fun T16 X16 => ?_
  clear X3
  exact Own.retA X16 d5_15 rfl rfl rfl ⟨cl, rfl, F14, bn8, V3⟩ (by decide) (by decide)
theorem ef_5_2 (m : MethodId) (x0 : Addr) : entryFrame m #[.ref x0] 1 = mkF m 0 #[.val (.ref x0)] [] := by first | (simp [entryFrame, mkF, argsToLocals, Value.category, maxLocals]; done) | rfl
set_option maxRecDepth 65536 in
set_option maxHeartbeats 40000000 in
theorem rm5_2 (l : Launch) (Z : State) (a0 : Array Value) (hw : ∀ d ∈ tables_1, d.before a0 Z = true) (a : Addr) (pl : Addr) (x0 : Addr) (x1 : Addr) (x2 : Addr) (k_pl : ClassId) (c_pl : ClassId) (u20 : Int32) (h0 : Heap) (n0 : Nat) (Z0 : n0 ≤ h0.size) (fc0 : Fld Z h0 a "com/example/allocus/allocus/method/Population" "plans" "[[I" (.ref pl)) (fc1 : Fld Z h0 a "com/example/allocus/allocus/method/Population" "best" "I" (.int (2 : Int32))) (fc2 : Arv Z h0 pl k_pl (.array .int) (3 : Int32) [.ref x0, .ref x1, .ref x2] (.null)) (fc3 : Arv Z h0 x2 c_pl .int (1 : Int32) [.int u20] (.int (0 : Int32))) (fc4 : Exa Z h0 x2 "[I")  :
    Own.Con l Z mn_4 [] prog_48_method_8_code 1 (some (.array .int)) ({ frames := 1, cells := 1, slots := 1, locals := 14 } : Room) #[.ref a] h0 n0 (fun v h => ∃ (cl : Addr), v = some (.ref cl) ∧ Keep h0 h [] ∧ h0.size ≤ cl ∧ Arv Z h cl c_pl .int (1 : Int32) [.int u20] (.int (0 : Int32))) := by
  refine Own.enter (own := "com/example/allocus/allocus/method/Population") (nm := "best") (plainFor_of_name pn_com_example_allocus_allocus_method_Population) rfl rfl (fun m => ef_5_2 m a) fun p e s m below meth c T X => ?_
  refine Own.aloadN X d5_0 rfl rfl ?_
  refine Own.getF_ X d5_1 (host := "") (Or.inl (Own.wd hw 12 rfl)) Via.refl fc0 fun T1 X1 => ?_
  clear X
  refine Own.aloadN X1 d5_4 rfl rfl ?_
  refine Own.getF_ X1 d5_5 (host := "") (Or.inl (Own.wd hw 39 rfl)) Via.refl fc1 fun T2 X2 => ?_
  clear X1
  refine Own.aaload_ X2 d5_8 fc2 rfl (by decide) rfl ?_
  refine Own.clone_ X2 (cap := 1) d5_9 (Own.wd hw 46 rfl) (Own.wd hw 47 rfl) (Own.wd hw 51 rfl) (Own.wd hw 49 rfl) (Own.wd hw 50 rfl) (Own.wd hw 52 rfl) fc3 fc4 rfl (by decide) (W := 0) (Nat.le_of_eq rfl) (by decide) (by decide) (by decide) (by decide) fun T3 h3 cl g_cl X3 E3 V3 A3 => ?_
  have ne4 : a ≠ cl := Nat.ne_of_lt (Nat.lt_of_lt_of_le fc0.lt (Nat.le_of_eq g_cl.symm))
  have ne5 : pl ≠ cl := Nat.ne_of_lt (Nat.lt_of_lt_of_le fc2.lt (Nat.le_of_eq g_cl.symm))
  have ne6 : x2 ≠ cl := Nat.ne_of_lt (Nat.lt_of_lt_of_le fc3.lt (Nat.le_of_eq g_cl.symm))
  have fr7 : n0 ≤ cl := Nat.le_trans Z0 (Nat.le_of_eq g_cl.symm)
  have bn8 : h0.size ≤ cl := Nat.le_trans (Keep.refl h0 []).1 (Nat.le_of_eq g_cl.symm)
  have F9 := fc0.ext E3
  have F10 := fc1.ext E3
  have F11 := fc2.ext E3
  have F12 := fc3.ext E3
  have F13 := fc4.ext E3
  have F14 := (Keep.refl h0 []).ext E3
  have Z15 : n0 ≤ h3.size := Nat.le_trans Z0 E3.1
  clear X2 fc0 fc1 fc2 fc3 fc4
  refine Own.cast_ X3 d5_12 (Own.wd hw 53 rfl) (Ins.self A3) fun T16 X16 => ?_
  clear X3
  exact Own.retA X16 d5_15 rfl rfl rfl ⟨cl, rfl, F14, bn8, V3⟩ (by decide) (by decide)
theorem ef_9 (m : MethodId) (x0 : Addr) (x1 : Addr) (x2 : Int32) : entryFrame m #[.ref x0, .ref x1, .int x2] 4 = mkF m 0 #[.val (.ref x0), .val (.ref x1), .val (.int x2), .unset] [] := by first | (simp [entryFrame, mkF, argsToLocals, Value.category, maxLocals]; done) | rfl
set_option maxRecDepth 65536 in
set_option maxHeartbeats 40000000 in
theorem rm9 (l : Launch) (Z : State) (a0 : Array Value) (hw : ∀ d ∈ tables_1, d.before a0 Z = true) (a1 : Addr) (a2 : Addr) (k_a1 : ClassId) (k_a2 : ClassId) (y1 : Int32) (y2 : Int32) (h0 : Heap) (n0 : Nat) (Z0 : n0 ≤ h0.size) (fc0 : Arv Z h0 a1 k_a1 .int (1 : Int32) [.int y1] (.int (0 : Int32))) (fc1 : Arv Z h0 a2 k_a2 .int (1 : Int32) [.int y2] (.int (0 : Int32))) (qn : ¬ (y1.toInt = y2.toInt)) :
    Own.Con l Z mn_5 [] jdk_48_method_19_code 4 (some .int) ({ frames := 0, cells := 0, slots := 0, locals := 0 } : Room) #[.ref a1, .ref a2, .int (1 : Int32)] h0 n0 (fun v h => v = some (.int (0 : Int32)) ∧ h0 = h) := by
  refine Own.enter (own := "jdk/internal/util/ArraysSupport") (nm := "mismatch") (plainFor_of_name pn_jdk_internal_util_ArraysSupport) rfl rfl (fun m => ef_9 m a1 a2 (1 : Int32)) fun p e s m below meth c T X => ?_
  refine Own.iconst X (v := 0) d9_0 rfl ?_
  refine Own.istoreN X d9_1 (l' := #[.val (.ref a1), .val (.ref a2), .val (.int (1 : Int32)), .val (.int (0 : Int32))]) rfl ?_
  refine Own.iloadN X d9_2 rfl ?_
  refine Own.iconst X (v := 1) d9_3 rfl ?_
  refine Own.icmp_ X (pc' := 48) d9_4 (by decide) (fun _ => ?_) (fun q => absurd (show (1 : Int) ≤ (1 : Int) from by decide) q)
  refine Own.iloadN X d9_48 rfl ?_
  refine Own.iloadN X d9_49 rfl ?_
  refine Own.icmp_ X (pc' := 70) d9_50 (by decide) (fun q => absurd (show (1 : Int) ≤ (0 : Int) from q) (show ¬ ((1 : Int) ≤ (0 : Int)) from by decide)) (fun _ => ?_)
  refine Own.aloadN X d9_53 rfl rfl ?_
  refine Own.iloadN X d9_54 rfl ?_
  refine Own.iaload_ X d9_55 fc0 (by decide) rfl ?_
  refine Own.aloadN X d9_56 rfl rfl ?_
  refine Own.iloadN X d9_57 rfl ?_
  refine Own.iaload_ X d9_58 fc1 (by decide) rfl ?_
  refine Own.icmp_ X (pc' := 64) d9_59 (by decide) (fun q => absurd (show y1.toInt = y2.toInt from q) (show ¬ (y1.toInt = y2.toInt) from qn)) (fun _ => ?_)
  refine Own.iloadN X d9_62 rfl ?_
  exact Own.retI X d9_63 ⟨rfl, rfl⟩ (by decide) (by decide)
theorem ef_8 (m : MethodId) (x0 : Addr) (x1 : Addr) : entryFrame m #[.ref x0, .ref x1] 3 = mkF m 0 #[.val (.ref x0), .val (.ref x1), .unset] [] := by first | (simp [entryFrame, mkF, argsToLocals, Value.category, maxLocals]; done) | rfl
set_option maxRecDepth 65536 in
set_option maxHeartbeats 40000000 in
theorem rm8 (l : Launch) (Z : State) (a0 : Array Value) (hw : ∀ d ∈ tables_1, d.before a0 Z = true) (a1 : Addr) (a2 : Addr) (k_a1 : ClassId) (k_a2 : ClassId) (y1 : Int32) (y2 : Int32) (h0 : Heap) (n0 : Nat) (Z0 : n0 ≤ h0.size) (fc0 : Arv Z h0 a1 k_a1 .int (1 : Int32) [.int y1] (.int (0 : Int32))) (fc1 : Arv Z h0 a2 k_a2 .int (1 : Int32) [.int y2] (.int (0 : Int32))) (nq0 : a1 ≠ a2) (qn : ¬ (y1.toInt = y2.toInt)) :
    Own.Con l Z mn_7 [] jdk_65_method_83_code 3 (some .boolean) ({ frames := 1, cells := 0, slots := 0, locals := 15 } : Room) #[.ref a1, .ref a2] h0 n0 (fun v h => v = some (.int (0 : Int32)) ∧ h0 = h) := by
  refine Own.enter (own := "java/util/Arrays") (nm := "equals") (plainFor_of_name pn_java_util_Arrays) rfl rfl (fun m => ef_8 m a1 a2) fun p e s m below meth c T X => ?_
  refine Own.aloadN X d8_0 rfl rfl ?_
  refine Own.aloadN X d8_1 rfl rfl ?_
  refine Own.acmp_ X (pc' := 7) (same := false) d8_2 rfl rfl (decide_eq_false fun q => nq0 (Value.ref.inj q)) (by decide) (by decide) ?_
  refine Own.aloadN X d8_7 rfl rfl ?_
  refine Own.ifnullN X d8_8 ?_
  refine Own.aloadN X d8_11 rfl rfl ?_
  refine Own.ifnonnullY X (pc' := 17) d8_12 (by decide) ?_
  refine Own.aloadN X d8_17 rfl rfl ?_
  refine Own.alen_ X d8_18 fc0 ?_
  refine Own.istoreN X d8_19 (l' := #[.val (.ref a1), .val (.ref a2), .val (.int (1 : Int32))]) rfl ?_
  refine Own.aloadN X d8_20 rfl rfl ?_
  refine Own.alen_ X d8_21 fc1 ?_
  refine Own.iloadN X d8_22 rfl ?_
  refine Own.icmp_ X (pc' := 28) d8_23 (by decide) (fun _ => ?_) (fun q => absurd (show (1 : Int) = (1 : Int) from by decide) q)
  refine Own.aloadN X d8_28 rfl rfl ?_
  refine Own.aloadN X d8_29 rfl rfl ?_
  refine Own.iloadN X d8_30 rfl ?_
  refine Own.callS_ (y := mn_5) X d8_31 (Own.wd hw 68 rfl) (Own.wd hw 69 rfl) (Own.wd hw 70 rfl) (Own.wd hw 71 rfl) (by decide) (rm9 l Z a0 hw a1 a2 k_a1 k_a2 y1 y2 h0 n0 Z0 fc0 fc1 qn) (lenOf pd_6 rfl) rfl (argsL := [.ref a1, .ref a2, .int (1 : Int32)]) (rest := []) rfl (W := 0) (Nat.le_of_eq rfl) (by decide) (by decide) (by decide) (by decide) fun T1 h1 v1 X1 q1 => ?_
  obtain ⟨rfl, rfl⟩ := q1
  show Own.Go p e below s n0 _ _ _ (T1.setTop (mkF m 34 _ [.int (0 : Int32)]))
  clear X
  refine Own.iff_ X1 (pc' := 41) d8_34 (by decide) (fun _ => ?_) (fun q => absurd (show (0 : Int) ≤ (0 : Int) from by decide) q)
  refine Own.iconst X1 (v := 0) d8_41 rfl ?_
  exact Own.retB X1 d8_42 (by decide) ⟨rfl, rfl⟩ (by decide) (by decide)
theorem ef_7 (m : MethodId) (x0 : Addr) (x1 : Addr) (x2 : UInt64) : entryFrame m #[.ref x0, .ref x1, .double x2] 5 = mkF m 0 #[.val (.ref x0), .val (.ref x1), .val (.double x2), .second, .unset] [] := by first | (simp [entryFrame, mkF, argsToLocals, Value.category, maxLocals]; done) | rfl
set_option maxRecDepth 65536 in
set_option maxHeartbeats 40000000 in
theorem rm7 (l : Launch) (Z : State) (a0 : Array Value) (hw : ∀ d ∈ tables_1, d.before a0 Z = true) (a : Addr) (si : Addr) (dv : UInt64) (pl : Addr) (x0 : Addr) (x1 : Addr) (x2 : Addr) (k_pl : ClassId) (c_pl : ClassId) (oa : Addr) (k_oa : ClassId) (k_si : ClassId) (y0 : Int32) (b0 : UInt64) (b1 : UInt64) (b2 : UInt64) (u00 : Int32) (u10 : Int32) (u20 : Int32) (h0 : Heap) (n0 : Nat) (Z0 : n0 ≤ h0.size) (fc0 : Fld Z h0 a "com/example/allocus/allocus/method/Population" "plans" "[[I" (.ref pl)) (fc1 : Fld Z h0 a "com/example/allocus/allocus/method/Population" "objectives" "[D" (.ref oa)) (fc2 : Fld Z h0 a "com/example/allocus/allocus/method/Population" "count" "I" (.int (3 : Int32))) (fc3 : Arv Z h0 pl k_pl (.array .int) (3 : Int32) [.ref x0, .ref x1, .ref x2] (.null)) (fc4 : Arv Z h0 oa k_oa .double (3 : Int32) [.double b0, .double b1, .double b2] (.double 0)) (fc5 : Arv Z h0 si k_si .int (1 : Int32) [.int y0] (.int (0 : Int32))) (fc6 : Arv Z h0 x0 c_pl .int (1 : Int32) [.int u00] (.int (0 : Int32))) (fc7 : Arv Z h0 x1 c_pl .int (1 : Int32) [.int u10] (.int (0 : Int32))) (fc8 : Arv Z h0 x2 c_pl .int (1 : Int32) [.int u20] (.int (0 : Int32))) (nq0 : x0 ≠ si) (nq1 : x1 ≠ si) (nq2 : x2 ≠ si) (n_dv : NoNaN64 dv) (n_b0 : NoNaN64 b0) (n_b1 : NoNaN64 b1) (n_b2 : NoNaN64 b2) (qm0 : ¬ (u00.toInt = y0.toInt)) (qm1 : ¬ (u10.toInt = y0.toInt)) (qm2 : ¬ (u20.toInt = y0.toInt)) :
    Own.Con l Z mn_9 [] prog_48_method_11_code 5 (some .boolean) ({ frames := 2, cells := 0, slots := 0, locals := 29 } : Room) #[.ref a, .ref si, .double dv] h0 n0 (fun v h => v = some (.int (0 : Int32)) ∧ h0 = h) := by
  refine Own.enter (own := "com/example/allocus/allocus/method/Population") (nm := "isMember") (plainFor_of_name pn_com_example_allocus_allocus_method_Population) rfl rfl (fun m => ef_7 m a si dv) fun p e s m below meth c T X => ?_
  refine Own.iconst X (v := 0) d7_0 rfl ?_
  refine Own.istore X d7_1 (l' := #[.val (.ref a), .val (.ref si), .val (.double dv), .second, .val (.int (0 : Int32))]) rfl ?_
  refine Own.iload X d7_3 rfl ?_
  refine Own.aloadN X d7_5 rfl rfl ?_
  refine Own.getF_ X d7_6 (host := "") (Or.inl (Own.wd hw 25 rfl)) Via.refl fc2 fun T1 X1 => ?_
  clear X
  refine Own.icmp_ X1 (pc' := 46) d7_9 (by decide) (fun q => absurd (show (3 : Int) ≤ (0 : Int) from q) (show ¬ ((3 : Int) ≤ (0 : Int)) from by decide)) (fun _ => ?_)
  refine Own.aloadN X1 d7_12 rfl rfl ?_
  refine Own.getF_ X1 d7_13 (host := "") (Or.inl (Own.wd hw 15 rfl)) Via.refl fc1 fun T2 X2 => ?_
  clear X1
  refine Own.iload X2 d7_16 rfl ?_
  refine Own.daload_ X2 d7_18 fc4 (by decide) rfl ?_
  refine Own.dloadN X2 d7_19 rfl ?_
  suffices J20_5 : ∀ (T5 : State), Own.St p l e ({ frames := 2, cells := 0, slots := 0, locals := 29 } : Room) s m #[.ref a, .ref si, .double dv] below meth c Z prog_48_method_11_code "com/example/allocus/allocus/method/Population" "isMember" 5 (some .boolean) n0 T5 h0 0 0 → Own.Go p e below s n0 (fun v h => v = some (.int (0 : Int32)) ∧ h0 = h) 0 0 (T5.setTop (mkF m 40 #[.val (.ref a), .val (.ref si), .val (.double dv), .second, .val (.int (0 : Int32))] [])) by
    refine Own.dcmpF X2 (pc' := 40) d7_20 d7_21 (by decide) n_b0 n_dv (fun (h20 : ¬ (Own.dz b0 = Own.dz dv)) => ?_) (fun h20' => ?_)
    · exact J20_5 _ (X2.more (by decide) (by decide)) 
    · have h20 : Own.dz b0 = Own.dz dv := Classical.not_not.mp h20'
      refine Own.aloadN X2 d7_24 rfl rfl ?_
      refine Own.getF_ X2 d7_25 (host := "") (Or.inl (Own.wd hw 12 rfl)) Via.refl fc0 fun T3 X3 => ?_
      clear X2
      refine Own.iload X3 d7_28 rfl ?_
      refine Own.aaload_ X3 d7_30 fc3 rfl (by decide) rfl ?_
      refine Own.aloadN X3 d7_31 rfl rfl ?_
      refine Own.callS_ (y := mn_7) X3 d7_32 (Own.wd hw 64 rfl) (Own.wd hw 65 rfl) (Own.wd hw 66 rfl) (Own.wd hw 67 rfl) (by decide) (rm8 l Z a0 hw x0 si c_pl k_si u00 y0 h0 n0 Z0 fc6 fc5 nq0 qm0) (lenOf pd_8 rfl) rfl (argsL := [.ref x0, .ref si]) (rest := []) rfl (W := 0) (Nat.le_of_eq rfl) (by decide) (by decide) (by decide) (by decide) fun T4 h4 v4 X4 q4 => ?_
      obtain ⟨rfl, rfl⟩ := q4
      show Own.Go p e below s n0 _ _ _ (T4.setTop (mkF m 35 _ [.int (0 : Int32)]))
      clear X3
      refine Own.iff_ X4 (pc' := 40) d7_35 (by decide) (fun _ => ?_) (fun q => absurd (show (0 : Int) = (0 : Int) from by decide) q)
      exact J20_5 _ (X4.more (by decide) (by decide)) 
  intro T5 X5
  clear X2
  refine Own.iinc X5 d7_40 rfl (l' := #[.val (.ref a), .val (.ref si), .val (.double dv), .second, .val (.int (1 : Int32))]) rfl ?_
  refine Own.goto_ X5 (pc' := 3) d7_43 (by decide) ?_
  refine Own.iload X5 d7_3 rfl ?_
  refine Own.aloadN X5 d7_5 rfl rfl ?_
  refine Own.getF_ X5 d7_6 (host := "") (Or.inl (Own.wd hw 25 rfl)) Via.refl fc2 fun T6 X6 => ?_
  clear X5
  refine Own.icmp_ X6 (pc' := 46) d7_9 (by decide) (fun q => absurd (show (3 : Int) ≤ (1 : Int) from q) (show ¬ ((3 : Int) ≤ (1 : Int)) from by decide)) (fun _ => ?_)
  refine Own.aloadN X6 d7_12 rfl rfl ?_
  refine Own.getF_ X6 d7_13 (host := "") (Or.inl (Own.wd hw 15 rfl)) Via.refl fc1 fun T7 X7 => ?_
  clear X6
  refine Own.iload X7 d7_16 rfl ?_
  refine Own.daload_ X7 d7_18 fc4 (by decide) rfl ?_
  refine Own.dloadN X7 d7_19 rfl ?_
  suffices J20_10 : ∀ (T10 : State), Own.St p l e ({ frames := 2, cells := 0, slots := 0, locals := 29 } : Room) s m #[.ref a, .ref si, .double dv] below meth c Z prog_48_method_11_code "com/example/allocus/allocus/method/Population" "isMember" 5 (some .boolean) n0 T10 h0 0 0 → Own.Go p e below s n0 (fun v h => v = some (.int (0 : Int32)) ∧ h0 = h) 0 0 (T10.setTop (mkF m 40 #[.val (.ref a), .val (.ref si), .val (.double dv), .second, .val (.int (1 : Int32))] [])) by
    refine Own.dcmpF X7 (pc' := 40) d7_20 d7_21 (by decide) n_b1 n_dv (fun (h20 : ¬ (Own.dz b1 = Own.dz dv)) => ?_) (fun h20' => ?_)
    · exact J20_10 _ (X7.more (by decide) (by decide)) 
    · have h20 : Own.dz b1 = Own.dz dv := Classical.not_not.mp h20'
      refine Own.aloadN X7 d7_24 rfl rfl ?_
      refine Own.getF_ X7 d7_25 (host := "") (Or.inl (Own.wd hw 12 rfl)) Via.refl fc0 fun T8 X8 => ?_
      clear X7
      refine Own.iload X8 d7_28 rfl ?_
      refine Own.aaload_ X8 d7_30 fc3 rfl (by decide) rfl ?_
      refine Own.aloadN X8 d7_31 rfl rfl ?_
      refine Own.callS_ (y := mn_7) X8 d7_32 (Own.wd hw 64 rfl) (Own.wd hw 65 rfl) (Own.wd hw 66 rfl) (Own.wd hw 67 rfl) (by decide) (rm8 l Z a0 hw x1 si c_pl k_si u10 y0 h0 n0 Z0 fc7 fc5 nq1 qm1) (lenOf pd_8 rfl) rfl (argsL := [.ref x1, .ref si]) (rest := []) rfl (W := 0) (Nat.le_of_eq rfl) (by decide) (by decide) (by decide) (by decide) fun T9 h9 v9 X9 q9 => ?_
      obtain ⟨rfl, rfl⟩ := q9
      show Own.Go p e below s n0 _ _ _ (T9.setTop (mkF m 35 _ [.int (0 : Int32)]))
      clear X8
      refine Own.iff_ X9 (pc' := 40) d7_35 (by decide) (fun _ => ?_) (fun q => absurd (show (0 : Int) = (0 : Int) from by decide) q)
      exact J20_10 _ (X9.more (by decide) (by decide)) 
  intro T10 X10
  clear X7
  refine Own.iinc X10 d7_40 rfl (l' := #[.val (.ref a), .val (.ref si), .val (.double dv), .second, .val (.int (2 : Int32))]) rfl ?_
  refine Own.goto_ X10 (pc' := 3) d7_43 (by decide) ?_
  refine Own.iload X10 d7_3 rfl ?_
  refine Own.aloadN X10 d7_5 rfl rfl ?_
  refine Own.getF_ X10 d7_6 (host := "") (Or.inl (Own.wd hw 25 rfl)) Via.refl fc2 fun T11 X11 => ?_
  clear X10
  refine Own.icmp_ X11 (pc' := 46) d7_9 (by decide) (fun q => absurd (show (3 : Int) ≤ (2 : Int) from q) (show ¬ ((3 : Int) ≤ (2 : Int)) from by decide)) (fun _ => ?_)
  refine Own.aloadN X11 d7_12 rfl rfl ?_
  refine Own.getF_ X11 d7_13 (host := "") (Or.inl (Own.wd hw 15 rfl)) Via.refl fc1 fun T12 X12 => ?_
  clear X11
  refine Own.iload X12 d7_16 rfl ?_
  refine Own.daload_ X12 d7_18 fc4 (by decide) rfl ?_
  refine Own.dloadN X12 d7_19 rfl ?_
  suffices J20_15 : ∀ (T15 : State), Own.St p l e ({ frames := 2, cells := 0, slots := 0, locals := 29 } : Room) s m #[.ref a, .ref si, .double dv] below meth c Z prog_48_method_11_code "com/example/allocus/allocus/method/Population" "isMember" 5 (some .boolean) n0 T15 h0 0 0 → Own.Go p e below s n0 (fun v h => v = some (.int (0 : Int32)) ∧ h0 = h) 0 0 (T15.setTop (mkF m 40 #[.val (.ref a), .val (.ref si), .val (.double dv), .second, .val (.int (2 : Int32))] [])) by
    refine Own.dcmpF X12 (pc' := 40) d7_20 d7_21 (by decide) n_b2 n_dv (fun (h20 : ¬ (Own.dz b2 = Own.dz dv)) => ?_) (fun h20' => ?_)
    · exact J20_15 _ (X12.more (by decide) (by decide)) 
    · have h20 : Own.dz b2 = Own.dz dv := Classical.not_not.mp h20'
      refine Own.aloadN X12 d7_24 rfl rfl ?_
      refine Own.getF_ X12 d7_25 (host := "") (Or.inl (Own.wd hw 12 rfl)) Via.refl fc0 fun T13 X13 => ?_
      clear X12
      refine Own.iload X13 d7_28 rfl ?_
      refine Own.aaload_ X13 d7_30 fc3 rfl (by decide) rfl ?_
      refine Own.aloadN X13 d7_31 rfl rfl ?_
      refine Own.callS_ (y := mn_7) X13 d7_32 (Own.wd hw 64 rfl) (Own.wd hw 65 rfl) (Own.wd hw 66 rfl) (Own.wd hw 67 rfl) (by decide) (rm8 l Z a0 hw x2 si c_pl k_si u20 y0 h0 n0 Z0 fc8 fc5 nq2 qm2) (lenOf pd_8 rfl) rfl (argsL := [.ref x2, .ref si]) (rest := []) rfl (W := 0) (Nat.le_of_eq rfl) (by decide) (by decide) (by decide) (by decide) fun T14 h14 v14 X14 q14 => ?_
      obtain ⟨rfl, rfl⟩ := q14
      show Own.Go p e below s n0 _ _ _ (T14.setTop (mkF m 35 _ [.int (0 : Int32)]))
      clear X13
      refine Own.iff_ X14 (pc' := 40) d7_35 (by decide) (fun _ => ?_) (fun q => absurd (show (0 : Int) = (0 : Int) from by decide) q)
      exact J20_15 _ (X14.more (by decide) (by decide)) 
  intro T15 X15
  clear X12
  refine Own.iinc X15 d7_40 rfl (l' := #[.val (.ref a), .val (.ref si), .val (.double dv), .second, .val (.int (3 : Int32))]) rfl ?_
  refine Own.goto_ X15 (pc' := 3) d7_43 (by decide) ?_
  refine Own.iload X15 d7_3 rfl ?_
  refine Own.aloadN X15 d7_5 rfl rfl ?_
  refine Own.getF_ X15 d7_6 (host := "") (Or.inl (Own.wd hw 25 rfl)) Via.refl fc2 fun T16 X16 => ?_
  clear X15
  refine Own.icmp_ X16 (pc' := 46) d7_9 (by decide) (fun _ => ?_) (fun q => absurd (show (3 : Int) ≤ (3 : Int) from by decide) q)
  refine Own.iconst X16 (v := 0) d7_46 rfl ?_
  exact Own.retB X16 d7_47 (by decide) ⟨rfl, rfl⟩ (by decide) (by decide)
theorem ef_6_0N (m : MethodId) (x0 : Addr) (x1 : Addr) (x2 : UInt64) : entryFrame m #[.ref x0, .ref x1, .double x2] 7 = mkF m 0 #[.val (.ref x0), .val (.ref x1), .val (.double x2), .second, .unset, .unset, .unset] [] := by first | (simp [entryFrame, mkF, argsToLocals, Value.category, maxLocals]; done) | rfl
set_option maxRecDepth 65536 in
set_option maxHeartbeats 40000000 in
theorem rm6_0N (l : Launch) (Z : State) (a0 : Array Value) (hw : ∀ d ∈ tables_1, d.before a0 Z = true) (a : Addr) (si : Addr) (dv : UInt64) (pl : Addr) (oa : Addr) (na : Addr) (x0 : Addr) (x1 : Addr) (x2 : Addr) (k_pl : ClassId) (c_pl : ClassId) (k_oa : ClassId) (k_na : ClassId) (b0 : UInt64) (b1 : UInt64) (b2 : UInt64) (m0 : Int64) (m1 : Int64) (m2 : Int64) (eJ : Int64) (k_si : ClassId) (y0 : Int32) (be : Int32) (u00 : Int32) (u10 : Int32) (u20 : Int32) (h0 : Heap) (n0 : Nat) (Z0 : n0 ≤ h0.size) (fc0 : Exa Z h0 a "com/example/allocus/allocus/method/Population") (fc1 : Fld Z h0 a "com/example/allocus/allocus/method/Population" "plans" "[[I" (.ref pl)) (fc2 : Fld Z h0 a "com/example/allocus/allocus/method/Population" "objectives" "[D" (.ref oa)) (fc3 : Fld Z h0 a "com/example/allocus/allocus/method/Population" "entered" "[J" (.ref na)) (fc4 : Fld Z h0 a "com/example/allocus/allocus/method/Population" "count" "I" (.int (3 : Int32))) (fc5 : Fld Z h0 a "com/example/allocus/allocus/method/Population" "entries" "J" (.long eJ)) (fc6 : Fld Z h0 a "com/example/allocus/allocus/method/Population" "worst" "I" (.int (0 : Int32))) (fc7 : Fld Z h0 a "com/example/allocus/allocus/method/Population" "best" "I" (.int be)) (fc8 : Arv Z h0 pl k_pl (.array .int) (3 : Int32) [.ref x0, .ref x1, .ref x2] (.null)) (fc9 : Arv Z h0 x0 c_pl .int (1 : Int32) [.int u00] (.int (0 : Int32))) (fc10 : Arv Z h0 x1 c_pl .int (1 : Int32) [.int u10] (.int (0 : Int32))) (fc11 : Arv Z h0 x2 c_pl .int (1 : Int32) [.int u20] (.int (0 : Int32))) (fc12 : Arv Z h0 oa k_oa .double (3 : Int32) [.double b0, .double b1, .double b2] (.double 0)) (fc13 : Arv Z h0 na k_na .long (3 : Int32) [.long m0, .long m1, .long m2] (.long (0 : Int64))) (fc14 : Arv Z h0 si k_si .int (1 : Int32) [.int y0] (.int (0 : Int32))) (nq0 : a ≠ pl) (nq1 : a ≠ oa) (nq2 : a ≠ na) (nq3 : a ≠ x0) (nq4 : a ≠ x1) (nq5 : a ≠ x2) (nq6 : pl ≠ oa) (nq7 : pl ≠ na) (nq8 : pl ≠ x0) (nq9 : pl ≠ x1) (nq10 : pl ≠ x2) (nq11 : oa ≠ na) (nq12 : oa ≠ x0) (nq13 : oa ≠ x1) (nq14 : oa ≠ x2) (nq15 : na ≠ x0) (nq16 : na ≠ x1) (nq17 : na ≠ x2) (nq18 : x0 ≠ x1) (nq19 : x0 ≠ x2) (nq20 : x1 ≠ x2) (nq21 : si ≠ a) (nq22 : si ≠ pl) (nq23 : si ≠ oa) (nq24 : si ≠ na) (nq25 : si ≠ x0) (nq26 : si ≠ x1) (nq27 : si ≠ x2) (fq0 : n0 ≤ a) (fq1 : n0 ≤ x0) (fq2 : n0 ≤ x1) (fq3 : n0 ≤ x2) (fq4 : n0 ≤ oa) (fq5 : n0 ≤ na) (n_dv : NoNaN64 dv) (n_b0 : NoNaN64 b0) (n_b1 : NoNaN64 b1) (n_b2 : NoNaN64 b2) (cw : Own.dz dv < Own.dz b0) (bx : UInt64) (hj : ¬ be < 0 ∧ be < (3 : Int32)) (hv : ([.double b0, .double b1, .double b2] : List Value).getD be.toNatClampNeg (.double 0) = .double bx) (n_bx : NoNaN64 bx) (cx : Own.dz dv < Own.dz bx) (qm0 : ¬ (u00.toInt = y0.toInt)) (qm1 : ¬ (u10.toInt = y0.toInt)) (qm2 : ¬ (u20.toInt = y0.toInt)) :
    Own.Con l Z mn_11 [] prog_48_method_6_code 7 (some .boolean) ({ frames := 3, cells := 0, slots := 0, locals := 48 } : Room) #[.ref a, .ref si, .double dv] h0 n0 (fun v h => v = some (.int (1 : Int32)) ∧ Keep h0 h [a, x0, oa, na] ∧ Fld Z h a "com/example/allocus/allocus/method/Population" "plans" "[[I" (.ref pl) ∧ Fld Z h a "com/example/allocus/allocus/method/Population" "best" "I" (.int (0 : Int32)) ∧ Arv Z h x0 c_pl .int (1 : Int32) [.int y0] (.int (0 : Int32))) := by
  refine Own.enter (own := "com/example/allocus/allocus/method/Population") (nm := "offer") (plainFor_of_name pn_com_example_allocus_allocus_method_Population) rfl rfl (fun m => ef_6_0N m a si dv) fun p e s m below meth c T X => ?_
  refine Own.dloadN X d6_0 rfl ?_
  refine Own.aloadN X d6_1 rfl rfl ?_
  refine Own.getF_ X d6_2 (host := "") (Or.inl (Own.wd hw 15 rfl)) Via.refl fc2 fun T1 X1 => ?_
  clear X
  refine Own.aloadN X1 d6_5 rfl rfl ?_
  refine Own.getF_ X1 d6_6 (host := "") (Or.inl (Own.wd hw 37 rfl)) Via.refl fc6 fun T2 X2 => ?_
  clear X1
  refine Own.daload_ X2 d6_9 fc12 (by decide) rfl ?_
  refine Own.dcmpF X2 (pc' := 23) d6_10 d6_11 (by decide) n_dv n_b0 (fun q => absurd (show Own.dz b0 ≤ Own.dz dv from q) (show ¬ (Own.dz b0 ≤ Own.dz dv) from by omega)) (fun _ => ?_)
  refine Own.aloadN X2 d6_14 rfl rfl ?_
  refine Own.aloadN X2 d6_15 rfl rfl ?_
  refine Own.dloadN X2 d6_16 rfl ?_
  refine Own.callP_ (y := mn_9) (D := "com/example/allocus/allocus/method/Population") (z' := mn_3) (z := mn_3) (a := a) X2 d6_17 (Own.wd hw 60 rfl) (Own.wd hw 61 rfl) (Own.wd hw 23 rfl) rfl (Own.wd hw 62 rfl) (Own.wd hw 3 rfl) (Own.wd hw 63 rfl) (by decide) fc0 (rm7 l Z a0 hw a si dv pl x0 x1 x2 k_pl c_pl oa k_oa k_si y0 b0 b1 b2 u00 u10 u20 h0 n0 Z0 fc1 fc2 fc4 fc8 fc12 fc14 fc9 fc10 fc11 (Ne.symm nq25) (Ne.symm nq26) (Ne.symm nq27) n_dv n_b0 n_b1 n_b2 qm0 qm1 qm2) (lenOf pd_10 rfl) rfl (argsL := [.ref si, .double dv]) (rest := []) rfl (W := 0) (Nat.le_of_eq rfl) (by decide) (by decide) (by decide) (by decide) fun T3 h3 v3 X3 q3 => ?_
  obtain ⟨rfl, rfl⟩ := q3
  show Own.Go p e below s n0 _ _ _ (T3.setTop (mkF m 20 _ [.int (0 : Int32)]))
  clear X2
  refine Own.iff_ X3 (pc' := 25) d6_20 (by decide) (fun _ => ?_) (fun q => absurd (show (0 : Int) = (0 : Int) from by decide) q)
  refine Own.dloadN X3 d6_25 rfl ?_
  refine Own.aloadN X3 d6_26 rfl rfl ?_
  refine Own.getF_ X3 d6_27 (host := "") (Or.inl (Own.wd hw 15 rfl)) Via.refl fc2 fun T4 X4 => ?_
  clear X3
  refine Own.aloadN X4 d6_30 rfl rfl ?_
  refine Own.getF_ X4 d6_31 (host := "") (Or.inl (Own.wd hw 39 rfl)) Via.refl fc7 fun T5 X5 => ?_
  clear X4
  refine Own.daload_ X5 d6_34 fc12 hj hv ?_
  refine Own.dcmpF X5 (pc' := 43) d6_35 d6_36 (by decide) n_dv n_bx (fun q => absurd (show Own.dz bx ≤ Own.dz dv from q) (show ¬ (Own.dz bx ≤ Own.dz dv) from by omega)) (fun _ => ?_)
  refine Own.iconst X5 (v := 1) d6_39 rfl ?_
  refine Own.goto_ X5 (pc' := 44) d6_40 (by decide) ?_
  refine Own.istore X5 d6_44 (l' := #[.val (.ref a), .val (.ref si), .val (.double dv), .second, .val (.int (1 : Int32)), .unset, .unset]) rfl ?_
  refine Own.aloadN X5 d6_46 rfl rfl ?_
  refine Own.getF_ X5 d6_47 (host := "") (Or.inl (Own.wd hw 37 rfl)) Via.refl fc6 fun T6 X6 => ?_
  clear X5
  refine Own.istore X6 d6_50 (l' := #[.val (.ref a), .val (.ref si), .val (.double dv), .second, .val (.int (1 : Int32)), .val (.int (0 : Int32)), .unset]) rfl ?_
  refine Own.aloadN X6 d6_52 rfl rfl ?_
  refine Own.iload X6 d6_53 rfl ?_
  refine Own.aloadN X6 d6_55 rfl rfl ?_
  refine Own.dloadN X6 d6_56 rfl ?_
  refine Own.callP_ (y := mn_1) (D := "com/example/allocus/allocus/method/Population") (z' := mn_3) (z := mn_3) (a := a) X6 d6_57 (Own.wd hw 27 rfl) (Own.wd hw 28 rfl) (Own.wd hw 23 rfl) rfl (Own.wd hw 29 rfl) (Own.wd hw 3 rfl) (Own.wd hw 30 rfl) (by decide) fc0 (rm4_0 l Z a0 hw a si dv pl oa na x0 x1 x2 k_pl c_pl k_oa k_na b0 b1 b2 m0 m1 m2 eJ k_si y0 u00 (3 : Int32) (0 : Int32) be h0 n0 Z0 fc0 fc1 fc2 fc3 fc4 fc5 fc6 fc7 fc8 fc9 fc12 fc13 fc14 nq0 nq1 nq2 nq3 nq4 nq5 nq6 nq7 nq8 nq9 nq10 nq11 nq12 nq13 nq14 nq15 nq16 nq17 nq18 nq19 nq20 nq21 nq22 nq23 nq24 nq25 nq26 nq27 fq0 fq1 fq2 fq3 fq4 fq5 ) (lenOf pd_2 rfl) rfl (argsL := [.int (0 : Int32), .ref si, .double dv]) (rest := []) rfl (W := 0) (Nat.le_of_eq rfl) (by decide) (by decide) (by decide) (by decide) fun T7 h7 v7 X7 q7 => ?_
  obtain ⟨rfl, K7, G7_0, G7_1, G7_2, G7_3, G7_4, G7_5, G7_6, G7_7, G7_8, G7_9⟩ := q7
  have F8 := fc0.keep K7
  have F9 := fc8.keep K7 (ninS (Ne.symm nq0) (ninS nq8 (ninS nq6 (ninS nq7 nin0))))
  have F10 := fc10.keep K7 (ninS (Ne.symm nq4) (ninS (Ne.symm nq18) (ninS (Ne.symm nq13) (ninS (Ne.symm nq16) nin0))))
  have F11 := fc11.keep K7 (ninS (Ne.symm nq5) (ninS (Ne.symm nq19) (ninS (Ne.symm nq14) (ninS (Ne.symm nq17) nin0))))
  have F12 := fc14.keep K7 (ninS nq21 (ninS nq25 (ninS nq23 (ninS nq24 nin0))))
  have F13 := (Keep.refl h0 [a, x0, oa, na]).trans K7 (allS (Or.inl (List.mem_of_getElem? (i := 0) rfl)) (allS (Or.inl (List.mem_of_getElem? (i := 1) rfl)) (allS (Or.inl (List.mem_of_getElem? (i := 2) rfl)) (allS (Or.inl (List.mem_of_getElem? (i := 3) rfl)) all0))))
  have Z14 : n0 ≤ h7.size := Nat.le_trans Z0 K7.1
  show Own.Go p e below s n0 _ _ _ (T7.setTop (mkF m 60 _ []))
  clear X6 fc0 fc1 fc10 fc11 fc12 fc13 fc14 fc2 fc3 fc4 fc5 fc6 fc7 fc8 fc9
  refine Own.iload X7 d6_60 rfl ?_
  refine Own.iff_ X7 (pc' := 71) d6_62 (by decide) (fun q => absurd (show (1 : Int) = (0 : Int) from q) (show ¬ ((1 : Int) = (0 : Int)) from by decide)) (fun _ => ?_)
  refine Own.aloadN X7 d6_65 rfl rfl ?_
  refine Own.iload X7 d6_66 rfl ?_
  refine Own.putF_ X7 d6_68 (host := "") (Or.inl (Own.wd hw 39 rfl)) Via.refl G7_6 F8 (Or.inl (Own.wd hw 40 rfl)) (Own.wd hw 2 rfl) (ty := .int) (by decide) rfl rfl fq0 fun T15 h15 X15 W15 => ?_
  have F16 := F8.wr W15
  have F17 := F9.other W15 (Ne.symm nq0)
  have F18 := F10.other W15 (Ne.symm nq4)
  have F19 := F11.other W15 (Ne.symm nq5)
  have F20 := F12.other W15 nq21
  have F21 := F13.wr W15 (Or.inl (List.mem_of_getElem? (i := 0) rfl))
  have F22 := G7_0.other W15 (Or.inr (slot_ne (Or.inr (Own.wd hw 13 rfl)) (Or.inl (Own.wd hw 40 rfl)) (by decide) (t := (.array (.array .int))) (t' := .int) (by decide) (by decide)))
  have F23 := G7_1.other W15 (Or.inr (slot_ne (Or.inr (Own.wd hw 16 rfl)) (Or.inl (Own.wd hw 40 rfl)) (by decide) (t := (.array .double)) (t' := .int) (by decide) (by decide)))
  have F24 := G7_2.other W15 (Or.inr (slot_ne (Or.inr (Own.wd hw 19 rfl)) (Or.inl (Own.wd hw 40 rfl)) (by decide) (t := (.array .long)) (t' := .int) (by decide) (by decide)))
  have F25 := G7_3.other W15 (Or.inr (slot_ne (Or.inl (Own.wd hw 26 rfl)) (Or.inl (Own.wd hw 40 rfl)) (by decide) (t := .int) (t' := .int) (by decide) (by decide)))
  have F26 := G7_4.other W15 (Or.inr (slot_ne (Or.inl (Own.wd hw 36 rfl)) (Or.inl (Own.wd hw 40 rfl)) (by decide) (t := .long) (t' := .int) (by decide) (by decide)))
  have F27 := G7_5.other W15 (Or.inr (slot_ne (Or.inl (Own.wd hw 38 rfl)) (Or.inl (Own.wd hw 40 rfl)) (by decide) (t := .int) (t' := .int) (by decide) (by decide)))
  have F28 := G7_7.other W15 (Ne.symm nq3)
  have F29 := G7_8.other W15 (Ne.symm nq1)
  have F30 := G7_9.other W15 (Ne.symm nq2)
  have F31 : Fld Z h15 a "com/example/allocus/allocus/method/Population" "best" "I" (.int (0 : Int32)) := Fld.same W15 G7_6
  have Z32 : n0 ≤ h15.size := by rw [W15.size]; exact Z14
  clear F10 F11 F12 F13 F8 F9 G7_0 G7_1 G7_2 G7_3 G7_4 G7_5 G7_6 G7_7 G7_8 G7_9 X7
  refine Own.aloadN X15 d6_71 rfl rfl ?_
  refine Own.iconst X15 (v := 0) d6_72 rfl ?_
  refine Own.putF_ X15 d6_73 (host := "") (Or.inl (Own.wd hw 37 rfl)) Via.refl F27 F16 (Or.inl (Own.wd hw 38 rfl)) (Own.wd hw 2 rfl) (ty := .int) (by decide) rfl rfl fq0 fun T33 h33 X33 W33 => ?_
  have F34 := F16.wr W33
  have F35 := F21.wr W33 (Or.inl (List.mem_of_getElem? (i := 0) rfl))
  have F36 := F22.other W33 (Or.inr (slot_ne (Or.inr (Own.wd hw 13 rfl)) (Or.inl (Own.wd hw 38 rfl)) (by decide) (t := (.array (.array .int))) (t' := .int) (by decide) (by decide)))
  have F37 := F23.other W33 (Or.inr (slot_ne (Or.inr (Own.wd hw 16 rfl)) (Or.inl (Own.wd hw 38 rfl)) (by decide) (t := (.array .double)) (t' := .int) (by decide) (by decide)))
  have F38 := F24.other W33 (Or.inr (slot_ne (Or.inr (Own.wd hw 19 rfl)) (Or.inl (Own.wd hw 38 rfl)) (by decide) (t := (.array .long)) (t' := .int) (by decide) (by decide)))
  have F39 := F25.other W33 (Or.inr (slot_ne (Or.inl (Own.wd hw 26 rfl)) (Or.inl (Own.wd hw 38 rfl)) (by decide) (t := .int) (t' := .int) (by decide) (by decide)))
  have F40 := F28.other W33 (Ne.symm nq3)
  have F41 := F29.other W33 (Ne.symm nq1)
  have F42 := F30.other W33 (Ne.symm nq2)
  have F43 := F31.other W33 (Or.inr (slot_ne (Or.inl (Own.wd hw 40 rfl)) (Or.inl (Own.wd hw 38 rfl)) (by decide) (t := .int) (t' := .int) (by decide) (by decide)))
  have F44 : Fld Z h33 a "com/example/allocus/allocus/method/Population" "worst" "I" (.int (0 : Int32)) := Fld.same W33 F27
  have Z45 : n0 ≤ h33.size := by rw [W33.size]; exact Z32
  clear F16 F21 F22 F23 F24 F25 F27 F28 F29 F30 F31 X15
  refine Own.iconst X33 (v := 1) d6_76 rfl ?_
  refine Own.istore X33 d6_77 (l' := #[.val (.ref a), .val (.ref si), .val (.double dv), .second, .val (.int (1 : Int32)), .val (.int (0 : Int32)), .val (.int (1 : Int32))]) rfl ?_
  refine Own.iload X33 d6_79 rfl ?_
  refine Own.aloadN X33 d6_81 rfl rfl ?_
  refine Own.getF_ X33 d6_82 (host := "") (Or.inl (Own.wd hw 25 rfl)) Via.refl F39 fun T46 X46 => ?_
  clear X33
  refine Own.icmp_ X46 (pc' := 160) d6_85 (by decide) (fun q => absurd (show (3 : Int) ≤ (1 : Int) from q) (show ¬ ((3 : Int) ≤ (1 : Int)) from by decide)) (fun _ => ?_)
  refine Own.aloadN X46 d6_88 rfl rfl ?_
  refine Own.getF_ X46 d6_89 (host := "") (Or.inl (Own.wd hw 15 rfl)) Via.refl F37 fun T47 X47 => ?_
  clear X46
  refine Own.iload X47 d6_92 rfl ?_
  refine Own.daload_ X47 d6_94 F41 (by decide) rfl ?_
  refine Own.aloadN X47 d6_95 rfl rfl ?_
  refine Own.getF_ X47 d6_96 (host := "") (Or.inl (Own.wd hw 15 rfl)) Via.refl F37 fun T48 X48 => ?_
  clear X47
  refine Own.aloadN X48 d6_99 rfl rfl ?_
  refine Own.getF_ X48 d6_100 (host := "") (Or.inl (Own.wd hw 37 rfl)) Via.refl F44 fun T49 X49 => ?_
  clear X48
  refine Own.daload_ X49 d6_103 F41 (by decide) rfl ?_
  suffices J104_82 : ∀ (T82 : State) (h82 : Heap), ∀ (z154_94 : Int32), z154_94 = (if Own.dz dv < Own.dz b1 then (1 : Int32) else (if Own.dz b1 = Own.dz dv then (if eJ.toInt ≤ m1.toInt then (0 : Int32) else (1 : Int32)) else (0 : Int32))) → Own.St p l e ({ frames := 3, cells := 0, slots := 0, locals := 48 } : Room) s m #[.ref a, .ref si, .double dv] below meth c Z prog_48_method_6_code "com/example/allocus/allocus/method/Population" "offer" 7 (some .boolean) n0 T82 h82 0 0 → n0 ≤ h82.size → Exa Z h82 a "com/example/allocus/allocus/method/Population" → Keep h0 h82 [a, x0, oa, na] → Fld Z h82 a "com/example/allocus/allocus/method/Population" "plans" "[[I" (.ref pl) → Fld Z h82 a "com/example/allocus/allocus/method/Population" "objectives" "[D" (.ref oa) → Fld Z h82 a "com/example/allocus/allocus/method/Population" "entered" "[J" (.ref na) → Fld Z h82 a "com/example/allocus/allocus/method/Population" "count" "I" (.int (3 : Int32)) → Arv Z h82 x0 c_pl .int (1 : Int32) [.int y0] (.int (0 : Int32)) → Arv Z h82 oa k_oa .double (3 : Int32) [.double dv, .double b1, .double b2] (.double 0) → Arv Z h82 na k_na .long (3 : Int32) [.long eJ, .long m1, .long m2] (.long (0 : Int64)) → Fld Z h82 a "com/example/allocus/allocus/method/Population" "best" "I" (.int (0 : Int32)) → Fld Z h82 a "com/example/allocus/allocus/method/Population" "worst" "I" (.int z154_94) → Own.Go p e below s n0 (fun v h => v = some (.int (1 : Int32)) ∧ Keep h0 h [a, x0, oa, na] ∧ Fld Z h a "com/example/allocus/allocus/method/Population" "plans" "[[I" (.ref pl) ∧ Fld Z h a "com/example/allocus/allocus/method/Population" "best" "I" (.int (0 : Int32)) ∧ Arv Z h x0 c_pl .int (1 : Int32) [.int y0] (.int (0 : Int32))) 0 0 (T82.setTop (mkF m 154 #[.val (.ref a), .val (.ref si), .val (.double dv), .second, .val (.int (1 : Int32)), .val (.int (0 : Int32)), .val (.int (1 : Int32))] [])) by
    refine Own.dcmpF X49 (pc' := 148) d6_104 d6_105 (by decide) n_b1 n_dv (fun (h104 : Own.dz dv < Own.dz b1) => ?_) (fun (h104 : ¬ (Own.dz dv < Own.dz b1)) => ?_)
    · refine Own.aloadN X49 d6_148 rfl rfl ?_
      refine Own.iload X49 d6_149 rfl ?_
      refine Own.putF_ X49 d6_151 (host := "") (Or.inl (Own.wd hw 37 rfl)) Via.refl F44 F34 (Or.inl (Own.wd hw 38 rfl)) (Own.wd hw 2 rfl) (ty := .int) (by decide) rfl rfl fq0 fun T50 h50 X50 W50 => ?_
      have F51 := F34.wr W50
      have F52 := F35.wr W50 (Or.inl (List.mem_of_getElem? (i := 0) rfl))
      have F53 := F36.other W50 (Or.inr (slot_ne (Or.inr (Own.wd hw 13 rfl)) (Or.inl (Own.wd hw 38 rfl)) (by decide) (t := (.array (.array .int))) (t' := .int) (by decide) (by decide)))
      have F54 := F37.other W50 (Or.inr (slot_ne (Or.inr (Own.wd hw 16 rfl)) (Or.inl (Own.wd hw 38 rfl)) (by decide) (t := (.array .double)) (t' := .int) (by decide) (by decide)))
      have F55 := F38.other W50 (Or.inr (slot_ne (Or.inr (Own.wd hw 19 rfl)) (Or.inl (Own.wd hw 38 rfl)) (by decide) (t := (.array .long)) (t' := .int) (by decide) (by decide)))
      have F56 := F39.other W50 (Or.inr (slot_ne (Or.inl (Own.wd hw 26 rfl)) (Or.inl (Own.wd hw 38 rfl)) (by decide) (t := .int) (t' := .int) (by decide) (by decide)))
      have F57 := F40.other W50 (Ne.symm nq3)
      have F58 := F41.other W50 (Ne.symm nq1)
      have F59 := F42.other W50 (Ne.symm nq2)
      have F60 := F43.other W50 (Or.inr (slot_ne (Or.inl (Own.wd hw 40 rfl)) (Or.inl (Own.wd hw 38 rfl)) (by decide) (t := .int) (t' := .int) (by decide) (by decide)))
      have F61 : Fld Z h50 a "com/example/allocus/allocus/method/Population" "worst" "I" (.int (1 : Int32)) := Fld.same W50 F44
      have Z62 : n0 ≤ h50.size := by rw [W50.size]; exact Z45
      exact J104_82 _ _ _ (if_pos h104).symm (X50.more (by decide) (by decide)) Z62 F51 F52 F53 F54 F55 F56 F57 F58 F59 F60 F61
    · refine Own.aloadN X49 d6_108 rfl rfl ?_
      refine Own.getF_ X49 d6_109 (host := "") (Or.inl (Own.wd hw 15 rfl)) Via.refl F37 fun T63 X63 => ?_
      clear X49
      refine Own.iload X63 d6_112 rfl ?_
      refine Own.daload_ X63 d6_114 F41 (by decide) rfl ?_
      refine Own.aloadN X63 d6_115 rfl rfl ?_
      refine Own.getF_ X63 d6_116 (host := "") (Or.inl (Own.wd hw 15 rfl)) Via.refl F37 fun T64 X64 => ?_
      clear X63
      refine Own.aloadN X64 d6_119 rfl rfl ?_
      refine Own.getF_ X64 d6_120 (host := "") (Or.inl (Own.wd hw 37 rfl)) Via.refl F44 fun T65 X65 => ?_
      clear X64
      refine Own.daload_ X65 d6_123 F41 (by decide) rfl ?_
      refine Own.dcmpF X65 (pc' := 154) d6_124 d6_125 (by decide) n_b1 n_dv (fun (h124 : ¬ (Own.dz b1 = Own.dz dv)) => ?_) (fun h124' => ?_)
      · exact J104_82 _ _ _ ((if_neg h104).trans (if_neg h124)).symm (X65.more (by decide) (by decide)) Z45 F34 F35 F36 F37 F38 F39 F40 F41 F42 F43 F44
      · have h124 : Own.dz b1 = Own.dz dv := Classical.not_not.mp h124'
        refine Own.aloadN X65 d6_128 rfl rfl ?_
        refine Own.getF_ X65 d6_129 (host := "") (Or.inl (Own.wd hw 18 rfl)) Via.refl F38 fun T66 X66 => ?_
        clear X65
        refine Own.iload X66 d6_132 rfl ?_
        refine Own.laload_ X66 d6_134 F42 (by decide) rfl ?_
        refine Own.aloadN X66 d6_135 rfl rfl ?_
        refine Own.getF_ X66 d6_136 (host := "") (Or.inl (Own.wd hw 18 rfl)) Via.refl F38 fun T67 X67 => ?_
        clear X66
        refine Own.aloadN X67 d6_139 rfl rfl ?_
        refine Own.getF_ X67 d6_140 (host := "") (Or.inl (Own.wd hw 37 rfl)) Via.refl F44 fun T68 X68 => ?_
        clear X67
        refine Own.laload_ X68 d6_143 F42 (by decide) rfl ?_
        refine Own.lcmpF X68 (pc' := 154) d6_144 d6_145 (by decide) (fun (h144 : eJ.toInt ≤ m1.toInt) => ?_) (fun (h144 : ¬ (eJ.toInt ≤ m1.toInt)) => ?_)
        · exact J104_82 _ _ _ (((if_neg h104).trans (if_pos h124)).trans (if_pos h144)).symm (X68.more (by decide) (by decide)) Z45 F34 F35 F36 F37 F38 F39 F40 F41 F42 F43 F44
        · refine Own.aloadN X68 d6_148 rfl rfl ?_
          refine Own.iload X68 d6_149 rfl ?_
          refine Own.putF_ X68 d6_151 (host := "") (Or.inl (Own.wd hw 37 rfl)) Via.refl F44 F34 (Or.inl (Own.wd hw 38 rfl)) (Own.wd hw 2 rfl) (ty := .int) (by decide) rfl rfl fq0 fun T69 h69 X69 W69 => ?_
          have F70 := F34.wr W69
          have F71 := F35.wr W69 (Or.inl (List.mem_of_getElem? (i := 0) rfl))
          have F72 := F36.other W69 (Or.inr (slot_ne (Or.inr (Own.wd hw 13 rfl)) (Or.inl (Own.wd hw 38 rfl)) (by decide) (t := (.array (.array .int))) (t' := .int) (by decide) (by decide)))
          have F73 := F37.other W69 (Or.inr (slot_ne (Or.inr (Own.wd hw 16 rfl)) (Or.inl (Own.wd hw 38 rfl)) (by decide) (t := (.array .double)) (t' := .int) (by decide) (by decide)))
          have F74 := F38.other W69 (Or.inr (slot_ne (Or.inr (Own.wd hw 19 rfl)) (Or.inl (Own.wd hw 38 rfl)) (by decide) (t := (.array .long)) (t' := .int) (by decide) (by decide)))
          have F75 := F39.other W69 (Or.inr (slot_ne (Or.inl (Own.wd hw 26 rfl)) (Or.inl (Own.wd hw 38 rfl)) (by decide) (t := .int) (t' := .int) (by decide) (by decide)))
          have F76 := F40.other W69 (Ne.symm nq3)
          have F77 := F41.other W69 (Ne.symm nq1)
          have F78 := F42.other W69 (Ne.symm nq2)
          have F79 := F43.other W69 (Or.inr (slot_ne (Or.inl (Own.wd hw 40 rfl)) (Or.inl (Own.wd hw 38 rfl)) (by decide) (t := .int) (t' := .int) (by decide) (by decide)))
          have F80 : Fld Z h69 a "com/example/allocus/allocus/method/Population" "worst" "I" (.int (1 : Int32)) := Fld.same W69 F44
          have Z81 : n0 ≤ h69.size := by rw [W69.size]; exact Z45
          exact J104_82 _ _ _ (((if_neg h104).trans (if_pos h124)).trans (if_neg h144)).symm (X69.more (by decide) (by decide)) Z81 F70 F71 F72 F73 F74 F75 F76 F77 F78 F79 F80
  intro T82 h82 z154_94 e_z154_94 X82 Z82 F83 F84 F85 F86 F87 F88 F89 F90 F91 F92 F93
  obtain ⟨bz_z154_94, mz_z154_94, hj_z154_94, hvb_z154_94, hvm_z154_94, n_bz_z154_94⟩ : ∃ (bb : UInt64) (mm : Int64), (¬ z154_94 < 0 ∧ z154_94 < (3 : Int32)) ∧ ([.double dv, .double b1, .double b2] : List Value).getD z154_94.toNatClampNeg (.double 0) = .double bb ∧ ([.long eJ, .long m1, .long m2] : List Value).getD z154_94.toNatClampNeg (.long (0 : Int64)) = .long mm ∧ NoNaN64 bb := by
    have hz : z154_94 = 0 ∨ z154_94 = 1 := own_01 e_z154_94
    rcases hz with hz | hz <;> rw [hz]
    · exact ⟨dv, eJ, by decide, rfl, rfl, n_dv⟩
    · exact ⟨b1, m1, by decide, rfl, rfl, n_b1⟩
  clear X49
  refine Own.iinc X82 d6_154 rfl (l' := #[.val (.ref a), .val (.ref si), .val (.double dv), .second, .val (.int (1 : Int32)), .val (.int (0 : Int32)), .val (.int (2 : Int32))]) rfl ?_
  refine Own.goto_ X82 (pc' := 79) d6_157 (by decide) ?_
  refine Own.iload X82 d6_79 rfl ?_
  refine Own.aloadN X82 d6_81 rfl rfl ?_
  refine Own.getF_ X82 d6_82 (host := "") (Or.inl (Own.wd hw 25 rfl)) Via.refl F88 fun T95 X95 => ?_
  clear X82
  refine Own.icmp_ X95 (pc' := 160) d6_85 (by decide) (fun q => absurd (show (3 : Int) ≤ (2 : Int) from q) (show ¬ ((3 : Int) ≤ (2 : Int)) from by decide)) (fun _ => ?_)
  refine Own.aloadN X95 d6_88 rfl rfl ?_
  refine Own.getF_ X95 d6_89 (host := "") (Or.inl (Own.wd hw 15 rfl)) Via.refl F86 fun T96 X96 => ?_
  clear X95
  refine Own.iload X96 d6_92 rfl ?_
  refine Own.daload_ X96 d6_94 F90 (by decide) rfl ?_
  refine Own.aloadN X96 d6_95 rfl rfl ?_
  refine Own.getF_ X96 d6_96 (host := "") (Or.inl (Own.wd hw 15 rfl)) Via.refl F86 fun T97 X97 => ?_
  clear X96
  refine Own.aloadN X97 d6_99 rfl rfl ?_
  refine Own.getF_ X97 d6_100 (host := "") (Or.inl (Own.wd hw 37 rfl)) Via.refl F93 fun T98 X98 => ?_
  clear X97
  refine Own.daload_ X98 d6_103 F90 hj_z154_94 hvb_z154_94 ?_
  suffices J104_131 : ∀ (T131 : State) (h131 : Heap), ∀ (z154_143 : Int32), z154_143 = (if Own.dz bz_z154_94 < Own.dz b2 then (2 : Int32) else (if Own.dz b2 = Own.dz bz_z154_94 then (if mz_z154_94.toInt ≤ m2.toInt then z154_94 else (2 : Int32)) else z154_94)) → Own.St p l e ({ frames := 3, cells := 0, slots := 0, locals := 48 } : Room) s m #[.ref a, .ref si, .double dv] below meth c Z prog_48_method_6_code "com/example/allocus/allocus/method/Population" "offer" 7 (some .boolean) n0 T131 h131 0 0 → n0 ≤ h131.size → Exa Z h131 a "com/example/allocus/allocus/method/Population" → Keep h0 h131 [a, x0, oa, na] → Fld Z h131 a "com/example/allocus/allocus/method/Population" "plans" "[[I" (.ref pl) → Fld Z h131 a "com/example/allocus/allocus/method/Population" "objectives" "[D" (.ref oa) → Fld Z h131 a "com/example/allocus/allocus/method/Population" "entered" "[J" (.ref na) → Fld Z h131 a "com/example/allocus/allocus/method/Population" "count" "I" (.int (3 : Int32)) → Arv Z h131 x0 c_pl .int (1 : Int32) [.int y0] (.int (0 : Int32)) → Arv Z h131 oa k_oa .double (3 : Int32) [.double dv, .double b1, .double b2] (.double 0) → Arv Z h131 na k_na .long (3 : Int32) [.long eJ, .long m1, .long m2] (.long (0 : Int64)) → Fld Z h131 a "com/example/allocus/allocus/method/Population" "best" "I" (.int (0 : Int32)) → Fld Z h131 a "com/example/allocus/allocus/method/Population" "worst" "I" (.int z154_143) → Own.Go p e below s n0 (fun v h => v = some (.int (1 : Int32)) ∧ Keep h0 h [a, x0, oa, na] ∧ Fld Z h a "com/example/allocus/allocus/method/Population" "plans" "[[I" (.ref pl) ∧ Fld Z h a "com/example/allocus/allocus/method/Population" "best" "I" (.int (0 : Int32)) ∧ Arv Z h x0 c_pl .int (1 : Int32) [.int y0] (.int (0 : Int32))) 0 0 (T131.setTop (mkF m 154 #[.val (.ref a), .val (.ref si), .val (.double dv), .second, .val (.int (1 : Int32)), .val (.int (0 : Int32)), .val (.int (2 : Int32))] [])) by
    refine Own.dcmpF X98 (pc' := 148) d6_104 d6_105 (by decide) n_b2 n_bz_z154_94 (fun (h104 : Own.dz bz_z154_94 < Own.dz b2) => ?_) (fun (h104 : ¬ (Own.dz bz_z154_94 < Own.dz b2)) => ?_)
    · refine Own.aloadN X98 d6_148 rfl rfl ?_
      refine Own.iload X98 d6_149 rfl ?_
      refine Own.putF_ X98 d6_151 (host := "") (Or.inl (Own.wd hw 37 rfl)) Via.refl F93 F83 (Or.inl (Own.wd hw 38 rfl)) (Own.wd hw 2 rfl) (ty := .int) (by decide) rfl rfl fq0 fun T99 h99 X99 W99 => ?_
      have F100 := F83.wr W99
      have F101 := F84.wr W99 (Or.inl (List.mem_of_getElem? (i := 0) rfl))
      have F102 := F85.other W99 (Or.inr (slot_ne (Or.inr (Own.wd hw 13 rfl)) (Or.inl (Own.wd hw 38 rfl)) (by decide) (t := (.array (.array .int))) (t' := .int) (by decide) (by decide)))
      have F103 := F86.other W99 (Or.inr (slot_ne (Or.inr (Own.wd hw 16 rfl)) (Or.inl (Own.wd hw 38 rfl)) (by decide) (t := (.array .double)) (t' := .int) (by decide) (by decide)))
      have F104 := F87.other W99 (Or.inr (slot_ne (Or.inr (Own.wd hw 19 rfl)) (Or.inl (Own.wd hw 38 rfl)) (by decide) (t := (.array .long)) (t' := .int) (by decide) (by decide)))
      have F105 := F88.other W99 (Or.inr (slot_ne (Or.inl (Own.wd hw 26 rfl)) (Or.inl (Own.wd hw 38 rfl)) (by decide) (t := .int) (t' := .int) (by decide) (by decide)))
      have F106 := F89.other W99 (Ne.symm nq3)
      have F107 := F90.other W99 (Ne.symm nq1)
      have F108 := F91.other W99 (Ne.symm nq2)
      have F109 := F92.other W99 (Or.inr (slot_ne (Or.inl (Own.wd hw 40 rfl)) (Or.inl (Own.wd hw 38 rfl)) (by decide) (t := .int) (t' := .int) (by decide) (by decide)))
      have F110 : Fld Z h99 a "com/example/allocus/allocus/method/Population" "worst" "I" (.int (2 : Int32)) := Fld.same W99 F93
      have Z111 : n0 ≤ h99.size := by rw [W99.size]; exact Z82
      exact J104_131 _ _ _ (if_pos h104).symm (X99.more (by decide) (by decide)) Z111 F100 F101 F102 F103 F104 F105 F106 F107 F108 F109 F110
    · refine Own.aloadN X98 d6_108 rfl rfl ?_
      refine Own.getF_ X98 d6_109 (host := "") (Or.inl (Own.wd hw 15 rfl)) Via.refl F86 fun T112 X112 => ?_
      clear X98
      refine Own.iload X112 d6_112 rfl ?_
      refine Own.daload_ X112 d6_114 F90 (by decide) rfl ?_
      refine Own.aloadN X112 d6_115 rfl rfl ?_
      refine Own.getF_ X112 d6_116 (host := "") (Or.inl (Own.wd hw 15 rfl)) Via.refl F86 fun T113 X113 => ?_
      clear X112
      refine Own.aloadN X113 d6_119 rfl rfl ?_
      refine Own.getF_ X113 d6_120 (host := "") (Or.inl (Own.wd hw 37 rfl)) Via.refl F93 fun T114 X114 => ?_
      clear X113
      refine Own.daload_ X114 d6_123 F90 hj_z154_94 hvb_z154_94 ?_
      refine Own.dcmpF X114 (pc' := 154) d6_124 d6_125 (by decide) n_b2 n_bz_z154_94 (fun (h124 : ¬ (Own.dz b2 = Own.dz bz_z154_94)) => ?_) (fun h124' => ?_)
      · exact J104_131 _ _ _ ((if_neg h104).trans (if_neg h124)).symm (X114.more (by decide) (by decide)) Z82 F83 F84 F85 F86 F87 F88 F89 F90 F91 F92 F93
      · have h124 : Own.dz b2 = Own.dz bz_z154_94 := Classical.not_not.mp h124'
        refine Own.aloadN X114 d6_128 rfl rfl ?_
        refine Own.getF_ X114 d6_129 (host := "") (Or.inl (Own.wd hw 18 rfl)) Via.refl F87 fun T115 X115 => ?_
        clear X114
        refine Own.iload X115 d6_132 rfl ?_
        refine Own.laload_ X115 d6_134 F91 (by decide) rfl ?_
        refine Own.aloadN X115 d6_135 rfl rfl ?_
        refine Own.getF_ X115 d6_136 (host := "") (Or.inl (Own.wd hw 18 rfl)) Via.refl F87 fun T116 X116 => ?_
        clear X115
        refine Own.aloadN X116 d6_139 rfl rfl ?_
        refine Own.getF_ X116 d6_140 (host := "") (Or.inl (Own.wd hw 37 rfl)) Via.refl F93 fun T117 X117 => ?_
        clear X116
        refine Own.laload_ X117 d6_143 F91 hj_z154_94 hvm_z154_94 ?_
        refine Own.lcmpF X117 (pc' := 154) d6_144 d6_145 (by decide) (fun (h144 : mz_z154_94.toInt ≤ m2.toInt) => ?_) (fun (h144 : ¬ (mz_z154_94.toInt ≤ m2.toInt)) => ?_)
        · exact J104_131 _ _ _ (((if_neg h104).trans (if_pos h124)).trans (if_pos h144)).symm (X117.more (by decide) (by decide)) Z82 F83 F84 F85 F86 F87 F88 F89 F90 F91 F92 F93
        · refine Own.aloadN X117 d6_148 rfl rfl ?_
          refine Own.iload X117 d6_149 rfl ?_
          refine Own.putF_ X117 d6_151 (host := "") (Or.inl (Own.wd hw 37 rfl)) Via.refl F93 F83 (Or.inl (Own.wd hw 38 rfl)) (Own.wd hw 2 rfl) (ty := .int) (by decide) rfl rfl fq0 fun T118 h118 X118 W118 => ?_
          have F119 := F83.wr W118
          have F120 := F84.wr W118 (Or.inl (List.mem_of_getElem? (i := 0) rfl))
          have F121 := F85.other W118 (Or.inr (slot_ne (Or.inr (Own.wd hw 13 rfl)) (Or.inl (Own.wd hw 38 rfl)) (by decide) (t := (.array (.array .int))) (t' := .int) (by decide) (by decide)))
          have F122 := F86.other W118 (Or.inr (slot_ne (Or.inr (Own.wd hw 16 rfl)) (Or.inl (Own.wd hw 38 rfl)) (by decide) (t := (.array .double)) (t' := .int) (by decide) (by decide)))
          have F123 := F87.other W118 (Or.inr (slot_ne (Or.inr (Own.wd hw 19 rfl)) (Or.inl (Own.wd hw 38 rfl)) (by decide) (t := (.array .long)) (t' := .int) (by decide) (by decide)))
          have F124 := F88.other W118 (Or.inr (slot_ne (Or.inl (Own.wd hw 26 rfl)) (Or.inl (Own.wd hw 38 rfl)) (by decide) (t := .int) (t' := .int) (by decide) (by decide)))
          have F125 := F89.other W118 (Ne.symm nq3)
          have F126 := F90.other W118 (Ne.symm nq1)
          have F127 := F91.other W118 (Ne.symm nq2)
          have F128 := F92.other W118 (Or.inr (slot_ne (Or.inl (Own.wd hw 40 rfl)) (Or.inl (Own.wd hw 38 rfl)) (by decide) (t := .int) (t' := .int) (by decide) (by decide)))
          have F129 : Fld Z h118 a "com/example/allocus/allocus/method/Population" "worst" "I" (.int (2 : Int32)) := Fld.same W118 F93
          have Z130 : n0 ≤ h118.size := by rw [W118.size]; exact Z82
          exact J104_131 _ _ _ (((if_neg h104).trans (if_pos h124)).trans (if_neg h144)).symm (X118.more (by decide) (by decide)) Z130 F119 F120 F121 F122 F123 F124 F125 F126 F127 F128 F129
  intro T131 h131 z154_143 e_z154_143 X131 Z131 F132 F133 F134 F135 F136 F137 F138 F139 F140 F141 F142
  skip
  clear X98
  refine Own.iinc X131 d6_154 rfl (l' := #[.val (.ref a), .val (.ref si), .val (.double dv), .second, .val (.int (1 : Int32)), .val (.int (0 : Int32)), .val (.int (3 : Int32))]) rfl ?_
  refine Own.goto_ X131 (pc' := 79) d6_157 (by decide) ?_
  refine Own.iload X131 d6_79 rfl ?_
  refine Own.aloadN X131 d6_81 rfl rfl ?_
  refine Own.getF_ X131 d6_82 (host := "") (Or.inl (Own.wd hw 25 rfl)) Via.refl F137 fun T144 X144 => ?_
  clear X131
  refine Own.icmp_ X144 (pc' := 160) d6_85 (by decide) (fun _ => ?_) (fun q => absurd (show (3 : Int) ≤ (3 : Int) from by decide) q)
  refine Own.iload X144 d6_160 rfl ?_
  exact Own.retB X144 d6_162 (by decide) ⟨rfl, F133, F134, F141, F138⟩ (by decide) (by decide)
theorem ef_6_0A (m : MethodId) (x0 : Addr) (x1 : Addr) (x2 : UInt64) : entryFrame m #[.ref x0, .ref x1, .double x2] 7 = mkF m 0 #[.val (.ref x0), .val (.ref x1), .val (.double x2), .second, .unset, .unset, .unset] [] := by first | (simp [entryFrame, mkF, argsToLocals, Value.category, maxLocals]; done) | rfl
set_option maxRecDepth 65536 in
set_option maxHeartbeats 40000000 in
theorem rm6_0A (l : Launch) (Z : State) (a0 : Array Value) (hw : ∀ d ∈ tables_1, d.before a0 Z = true) (a : Addr) (si : Addr) (dv : UInt64) (pl : Addr) (oa : Addr) (na : Addr) (x0 : Addr) (x1 : Addr) (x2 : Addr) (k_pl : ClassId) (c_pl : ClassId) (k_oa : ClassId) (k_na : ClassId) (b0 : UInt64) (b1 : UInt64) (b2 : UInt64) (m0 : Int64) (m1 : Int64) (m2 : Int64) (eJ : Int64) (k_si : ClassId) (y0 : Int32) (be : Int32) (u00 : Int32) (u10 : Int32) (u20 : Int32) (h0 : Heap) (n0 : Nat) (Z0 : n0 ≤ h0.size) (fc0 : Exa Z h0 a "com/example/allocus/allocus/method/Population") (fc1 : Fld Z h0 a "com/example/allocus/allocus/method/Population" "plans" "[[I" (.ref pl)) (fc2 : Fld Z h0 a "com/example/allocus/allocus/method/Population" "objectives" "[D" (.ref oa)) (fc3 : Fld Z h0 a "com/example/allocus/allocus/method/Population" "entered" "[J" (.ref na)) (fc4 : Fld Z h0 a "com/example/allocus/allocus/method/Population" "count" "I" (.int (3 : Int32))) (fc5 : Fld Z h0 a "com/example/allocus/allocus/method/Population" "entries" "J" (.long eJ)) (fc6 : Fld Z h0 a "com/example/allocus/allocus/method/Population" "worst" "I" (.int (0 : Int32))) (fc7 : Fld Z h0 a "com/example/allocus/allocus/method/Population" "best" "I" (.int be)) (fc8 : Arv Z h0 pl k_pl (.array .int) (3 : Int32) [.ref x0, .ref x1, .ref x2] (.null)) (fc9 : Arv Z h0 x0 c_pl .int (1 : Int32) [.int u00] (.int (0 : Int32))) (fc10 : Arv Z h0 x1 c_pl .int (1 : Int32) [.int u10] (.int (0 : Int32))) (fc11 : Arv Z h0 x2 c_pl .int (1 : Int32) [.int u20] (.int (0 : Int32))) (fc12 : Arv Z h0 oa k_oa .double (3 : Int32) [.double b0, .double b1, .double b2] (.double 0)) (fc13 : Arv Z h0 na k_na .long (3 : Int32) [.long m0, .long m1, .long m2] (.long (0 : Int64))) (fc14 : Arv Z h0 si k_si .int (1 : Int32) [.int y0] (.int (0 : Int32))) (nq0 : a ≠ pl) (nq1 : a ≠ oa) (nq2 : a ≠ na) (nq3 : a ≠ x0) (nq4 : a ≠ x1) (nq5 : a ≠ x2) (nq6 : pl ≠ oa) (nq7 : pl ≠ na) (nq8 : pl ≠ x0) (nq9 : pl ≠ x1) (nq10 : pl ≠ x2) (nq11 : oa ≠ na) (nq12 : oa ≠ x0) (nq13 : oa ≠ x1) (nq14 : oa ≠ x2) (nq15 : na ≠ x0) (nq16 : na ≠ x1) (nq17 : na ≠ x2) (nq18 : x0 ≠ x1) (nq19 : x0 ≠ x2) (nq20 : x1 ≠ x2) (nq21 : si ≠ a) (nq22 : si ≠ pl) (nq23 : si ≠ oa) (nq24 : si ≠ na) (nq25 : si ≠ x0) (nq26 : si ≠ x1) (nq27 : si ≠ x2) (fq0 : n0 ≤ a) (fq1 : n0 ≤ x0) (fq2 : n0 ≤ x1) (fq3 : n0 ≤ x2) (fq4 : n0 ≤ oa) (fq5 : n0 ≤ na) (n_dv : NoNaN64 dv) (n_b0 : NoNaN64 b0) (n_b1 : NoNaN64 b1) (n_b2 : NoNaN64 b2) (cw : Own.dz dv < Own.dz b0) (bx : UInt64) (hj : ¬ be < 0 ∧ be < (3 : Int32)) (hv : ([.double b0, .double b1, .double b2] : List Value).getD be.toNatClampNeg (.double 0) = .double bx) (n_bx : NoNaN64 bx) (cx : Own.dz bx ≤ Own.dz dv) (qm0 : ¬ (u00.toInt = y0.toInt)) (qm1 : ¬ (u10.toInt = y0.toInt)) (qm2 : ¬ (u20.toInt = y0.toInt)) :
    Own.Con l Z mn_11 [] prog_48_method_6_code 7 (some .boolean) ({ frames := 3, cells := 0, slots := 0, locals := 48 } : Room) #[.ref a, .ref si, .double dv] h0 n0 (fun v h => v = some (.int (0 : Int32)) ∧ Keep h0 h [a, x0, oa, na] ∧ Fld Z h a "com/example/allocus/allocus/method/Population" "plans" "[[I" (.ref pl) ∧ Fld Z h a "com/example/allocus/allocus/method/Population" "best" "I" (.int be) ∧ Arv Z h x0 c_pl .int (1 : Int32) [.int y0] (.int (0 : Int32))) := by
  refine Own.enter (own := "com/example/allocus/allocus/method/Population") (nm := "offer") (plainFor_of_name pn_com_example_allocus_allocus_method_Population) rfl rfl (fun m => ef_6_0A m a si dv) fun p e s m below meth c T X => ?_
  refine Own.dloadN X d6_0 rfl ?_
  refine Own.aloadN X d6_1 rfl rfl ?_
  refine Own.getF_ X d6_2 (host := "") (Or.inl (Own.wd hw 15 rfl)) Via.refl fc2 fun T1 X1 => ?_
  clear X
  refine Own.aloadN X1 d6_5 rfl rfl ?_
  refine Own.getF_ X1 d6_6 (host := "") (Or.inl (Own.wd hw 37 rfl)) Via.refl fc6 fun T2 X2 => ?_
  clear X1
  refine Own.daload_ X2 d6_9 fc12 (by decide) rfl ?_
  refine Own.dcmpF X2 (pc' := 23) d6_10 d6_11 (by decide) n_dv n_b0 (fun q => absurd (show Own.dz b0 ≤ Own.dz dv from q) (show ¬ (Own.dz b0 ≤ Own.dz dv) from by omega)) (fun _ => ?_)
  refine Own.aloadN X2 d6_14 rfl rfl ?_
  refine Own.aloadN X2 d6_15 rfl rfl ?_
  refine Own.dloadN X2 d6_16 rfl ?_
  refine Own.callP_ (y := mn_9) (D := "com/example/allocus/allocus/method/Population") (z' := mn_3) (z := mn_3) (a := a) X2 d6_17 (Own.wd hw 60 rfl) (Own.wd hw 61 rfl) (Own.wd hw 23 rfl) rfl (Own.wd hw 62 rfl) (Own.wd hw 3 rfl) (Own.wd hw 63 rfl) (by decide) fc0 (rm7 l Z a0 hw a si dv pl x0 x1 x2 k_pl c_pl oa k_oa k_si y0 b0 b1 b2 u00 u10 u20 h0 n0 Z0 fc1 fc2 fc4 fc8 fc12 fc14 fc9 fc10 fc11 (Ne.symm nq25) (Ne.symm nq26) (Ne.symm nq27) n_dv n_b0 n_b1 n_b2 qm0 qm1 qm2) (lenOf pd_10 rfl) rfl (argsL := [.ref si, .double dv]) (rest := []) rfl (W := 0) (Nat.le_of_eq rfl) (by decide) (by decide) (by decide) (by decide) fun T3 h3 v3 X3 q3 => ?_
  obtain ⟨rfl, rfl⟩ := q3
  show Own.Go p e below s n0 _ _ _ (T3.setTop (mkF m 20 _ [.int (0 : Int32)]))
  clear X2
  refine Own.iff_ X3 (pc' := 25) d6_20 (by decide) (fun _ => ?_) (fun q => absurd (show (0 : Int) = (0 : Int) from by decide) q)
  refine Own.dloadN X3 d6_25 rfl ?_
  refine Own.aloadN X3 d6_26 rfl rfl ?_
  refine Own.getF_ X3 d6_27 (host := "") (Or.inl (Own.wd hw 15 rfl)) Via.refl fc2 fun T4 X4 => ?_
  clear X3
  refine Own.aloadN X4 d6_30 rfl rfl ?_
  refine Own.getF_ X4 d6_31 (host := "") (Or.inl (Own.wd hw 39 rfl)) Via.refl fc7 fun T5 X5 => ?_
  clear X4
  refine Own.daload_ X5 d6_34 fc12 hj hv ?_
  refine Own.dcmpF X5 (pc' := 43) d6_35 d6_36 (by decide) n_dv n_bx (fun _ => ?_) (fun q => absurd (show Own.dz bx ≤ Own.dz dv from by omega) q)
  refine Own.iconst X5 (v := 0) d6_43 rfl ?_
  refine Own.istore X5 d6_44 (l' := #[.val (.ref a), .val (.ref si), .val (.double dv), .second, .val (.int (0 : Int32)), .unset, .unset]) rfl ?_
  refine Own.aloadN X5 d6_46 rfl rfl ?_
  refine Own.getF_ X5 d6_47 (host := "") (Or.inl (Own.wd hw 37 rfl)) Via.refl fc6 fun T6 X6 => ?_
  clear X5
  refine Own.istore X6 d6_50 (l' := #[.val (.ref a), .val (.ref si), .val (.double dv), .second, .val (.int (0 : Int32)), .val (.int (0 : Int32)), .unset]) rfl ?_
  refine Own.aloadN X6 d6_52 rfl rfl ?_
  refine Own.iload X6 d6_53 rfl ?_
  refine Own.aloadN X6 d6_55 rfl rfl ?_
  refine Own.dloadN X6 d6_56 rfl ?_
  refine Own.callP_ (y := mn_1) (D := "com/example/allocus/allocus/method/Population") (z' := mn_3) (z := mn_3) (a := a) X6 d6_57 (Own.wd hw 27 rfl) (Own.wd hw 28 rfl) (Own.wd hw 23 rfl) rfl (Own.wd hw 29 rfl) (Own.wd hw 3 rfl) (Own.wd hw 30 rfl) (by decide) fc0 (rm4_0 l Z a0 hw a si dv pl oa na x0 x1 x2 k_pl c_pl k_oa k_na b0 b1 b2 m0 m1 m2 eJ k_si y0 u00 (3 : Int32) (0 : Int32) be h0 n0 Z0 fc0 fc1 fc2 fc3 fc4 fc5 fc6 fc7 fc8 fc9 fc12 fc13 fc14 nq0 nq1 nq2 nq3 nq4 nq5 nq6 nq7 nq8 nq9 nq10 nq11 nq12 nq13 nq14 nq15 nq16 nq17 nq18 nq19 nq20 nq21 nq22 nq23 nq24 nq25 nq26 nq27 fq0 fq1 fq2 fq3 fq4 fq5 ) (lenOf pd_2 rfl) rfl (argsL := [.int (0 : Int32), .ref si, .double dv]) (rest := []) rfl (W := 0) (Nat.le_of_eq rfl) (by decide) (by decide) (by decide) (by decide) fun T7 h7 v7 X7 q7 => ?_
  obtain ⟨rfl, K7, G7_0, G7_1, G7_2, G7_3, G7_4, G7_5, G7_6, G7_7, G7_8, G7_9⟩ := q7
  have F8 := fc0.keep K7
  have F9 := fc8.keep K7 (ninS (Ne.symm nq0) (ninS nq8 (ninS nq6 (ninS nq7 nin0))))
  have F10 := fc10.keep K7 (ninS (Ne.symm nq4) (ninS (Ne.symm nq18) (ninS (Ne.symm nq13) (ninS (Ne.symm nq16) nin0))))
  have F11 := fc11.keep K7 (ninS (Ne.symm nq5) (ninS (Ne.symm nq19) (ninS (Ne.symm nq14) (ninS (Ne.symm nq17) nin0))))
  have F12 := fc14.keep K7 (ninS nq21 (ninS nq25 (ninS nq23 (ninS nq24 nin0))))
  have F13 := (Keep.refl h0 [a, x0, oa, na]).trans K7 (allS (Or.inl (List.mem_of_getElem? (i := 0) rfl)) (allS (Or.inl (List.mem_of_getElem? (i := 1) rfl)) (allS (Or.inl (List.mem_of_getElem? (i := 2) rfl)) (allS (Or.inl (List.mem_of_getElem? (i := 3) rfl)) all0))))
  have Z14 : n0 ≤ h7.size := Nat.le_trans Z0 K7.1
  show Own.Go p e below s n0 _ _ _ (T7.setTop (mkF m 60 _ []))
  clear X6 fc0 fc1 fc10 fc11 fc12 fc13 fc14 fc2 fc3 fc4 fc5 fc6 fc7 fc8 fc9
  refine Own.iload X7 d6_60 rfl ?_
  refine Own.iff_ X7 (pc' := 71) d6_62 (by decide) (fun _ => ?_) (fun q => absurd (show (0 : Int) = (0 : Int) from by decide) q)
  refine Own.aloadN X7 d6_71 rfl rfl ?_
  refine Own.iconst X7 (v := 0) d6_72 rfl ?_
  refine Own.putF_ X7 d6_73 (host := "") (Or.inl (Own.wd hw 37 rfl)) Via.refl G7_5 F8 (Or.inl (Own.wd hw 38 rfl)) (Own.wd hw 2 rfl) (ty := .int) (by decide) rfl rfl fq0 fun T15 h15 X15 W15 => ?_
  have F16 := F8.wr W15
  have F17 := F13.wr W15 (Or.inl (List.mem_of_getElem? (i := 0) rfl))
  have F18 := G7_0.other W15 (Or.inr (slot_ne (Or.inr (Own.wd hw 13 rfl)) (Or.inl (Own.wd hw 38 rfl)) (by decide) (t := (.array (.array .int))) (t' := .int) (by decide) (by decide)))
  have F19 := G7_1.other W15 (Or.inr (slot_ne (Or.inr (Own.wd hw 16 rfl)) (Or.inl (Own.wd hw 38 rfl)) (by decide) (t := (.array .double)) (t' := .int) (by decide) (by decide)))
  have F20 := G7_2.other W15 (Or.inr (slot_ne (Or.inr (Own.wd hw 19 rfl)) (Or.inl (Own.wd hw 38 rfl)) (by decide) (t := (.array .long)) (t' := .int) (by decide) (by decide)))
  have F21 := G7_3.other W15 (Or.inr (slot_ne (Or.inl (Own.wd hw 26 rfl)) (Or.inl (Own.wd hw 38 rfl)) (by decide) (t := .int) (t' := .int) (by decide) (by decide)))
  have F22 := G7_6.other W15 (Or.inr (slot_ne (Or.inl (Own.wd hw 40 rfl)) (Or.inl (Own.wd hw 38 rfl)) (by decide) (t := .int) (t' := .int) (by decide) (by decide)))
  have F23 := G7_7.other W15 (Ne.symm nq3)
  have F24 := G7_8.other W15 (Ne.symm nq1)
  have F25 := G7_9.other W15 (Ne.symm nq2)
  have F26 : Fld Z h15 a "com/example/allocus/allocus/method/Population" "worst" "I" (.int (0 : Int32)) := Fld.same W15 G7_5
  have Z27 : n0 ≤ h15.size := by rw [W15.size]; exact Z14
  clear F13 F8 G7_0 G7_1 G7_2 G7_3 G7_5 G7_6 G7_7 G7_8 G7_9 X7
  refine Own.iconst X15 (v := 1) d6_76 rfl ?_
  refine Own.istore X15 d6_77 (l' := #[.val (.ref a), .val (.ref si), .val (.double dv), .second, .val (.int (0 : Int32)), .val (.int (0 : Int32)), .val (.int (1 : Int32))]) rfl ?_
  refine Own.iload X15 d6_79 rfl ?_
  refine Own.aloadN X15 d6_81 rfl rfl ?_
  refine Own.getF_ X15 d6_82 (host := "") (Or.inl (Own.wd hw 25 rfl)) Via.refl F21 fun T28 X28 => ?_
  clear X15
  refine Own.icmp_ X28 (pc' := 160) d6_85 (by decide) (fun q => absurd (show (3 : Int) ≤ (1 : Int) from q) (show ¬ ((3 : Int) ≤ (1 : Int)) from by decide)) (fun _ => ?_)
  refine Own.aloadN X28 d6_88 rfl rfl ?_
  refine Own.getF_ X28 d6_89 (host := "") (Or.inl (Own.wd hw 15 rfl)) Via.refl F19 fun T29 X29 => ?_
  clear X28
  refine Own.iload X29 d6_92 rfl ?_
  refine Own.daload_ X29 d6_94 F24 (by decide) rfl ?_
  refine Own.aloadN X29 d6_95 rfl rfl ?_
  refine Own.getF_ X29 d6_96 (host := "") (Or.inl (Own.wd hw 15 rfl)) Via.refl F19 fun T30 X30 => ?_
  clear X29
  refine Own.aloadN X30 d6_99 rfl rfl ?_
  refine Own.getF_ X30 d6_100 (host := "") (Or.inl (Own.wd hw 37 rfl)) Via.refl F26 fun T31 X31 => ?_
  clear X30
  refine Own.daload_ X31 d6_103 F24 (by decide) rfl ?_
  suffices J104_64 : ∀ (T64 : State) (h64 : Heap), ∀ (z154_76 : Int32), z154_76 = (if Own.dz dv < Own.dz b1 then (1 : Int32) else (if Own.dz b1 = Own.dz dv then (if eJ.toInt ≤ m1.toInt then (0 : Int32) else (1 : Int32)) else (0 : Int32))) → Own.St p l e ({ frames := 3, cells := 0, slots := 0, locals := 48 } : Room) s m #[.ref a, .ref si, .double dv] below meth c Z prog_48_method_6_code "com/example/allocus/allocus/method/Population" "offer" 7 (some .boolean) n0 T64 h64 0 0 → n0 ≤ h64.size → Exa Z h64 a "com/example/allocus/allocus/method/Population" → Keep h0 h64 [a, x0, oa, na] → Fld Z h64 a "com/example/allocus/allocus/method/Population" "plans" "[[I" (.ref pl) → Fld Z h64 a "com/example/allocus/allocus/method/Population" "objectives" "[D" (.ref oa) → Fld Z h64 a "com/example/allocus/allocus/method/Population" "entered" "[J" (.ref na) → Fld Z h64 a "com/example/allocus/allocus/method/Population" "count" "I" (.int (3 : Int32)) → Fld Z h64 a "com/example/allocus/allocus/method/Population" "best" "I" (.int be) → Arv Z h64 x0 c_pl .int (1 : Int32) [.int y0] (.int (0 : Int32)) → Arv Z h64 oa k_oa .double (3 : Int32) [.double dv, .double b1, .double b2] (.double 0) → Arv Z h64 na k_na .long (3 : Int32) [.long eJ, .long m1, .long m2] (.long (0 : Int64)) → Fld Z h64 a "com/example/allocus/allocus/method/Population" "worst" "I" (.int z154_76) → Own.Go p e below s n0 (fun v h => v = some (.int (0 : Int32)) ∧ Keep h0 h [a, x0, oa, na] ∧ Fld Z h a "com/example/allocus/allocus/method/Population" "plans" "[[I" (.ref pl) ∧ Fld Z h a "com/example/allocus/allocus/method/Population" "best" "I" (.int be) ∧ Arv Z h x0 c_pl .int (1 : Int32) [.int y0] (.int (0 : Int32))) 0 0 (T64.setTop (mkF m 154 #[.val (.ref a), .val (.ref si), .val (.double dv), .second, .val (.int (0 : Int32)), .val (.int (0 : Int32)), .val (.int (1 : Int32))] [])) by
    refine Own.dcmpF X31 (pc' := 148) d6_104 d6_105 (by decide) n_b1 n_dv (fun (h104 : Own.dz dv < Own.dz b1) => ?_) (fun (h104 : ¬ (Own.dz dv < Own.dz b1)) => ?_)
    · refine Own.aloadN X31 d6_148 rfl rfl ?_
      refine Own.iload X31 d6_149 rfl ?_
      refine Own.putF_ X31 d6_151 (host := "") (Or.inl (Own.wd hw 37 rfl)) Via.refl F26 F16 (Or.inl (Own.wd hw 38 rfl)) (Own.wd hw 2 rfl) (ty := .int) (by decide) rfl rfl fq0 fun T32 h32 X32 W32 => ?_
      have F33 := F16.wr W32
      have F34 := F17.wr W32 (Or.inl (List.mem_of_getElem? (i := 0) rfl))
      have F35 := F18.other W32 (Or.inr (slot_ne (Or.inr (Own.wd hw 13 rfl)) (Or.inl (Own.wd hw 38 rfl)) (by decide) (t := (.array (.array .int))) (t' := .int) (by decide) (by decide)))
      have F36 := F19.other W32 (Or.inr (slot_ne (Or.inr (Own.wd hw 16 rfl)) (Or.inl (Own.wd hw 38 rfl)) (by decide) (t := (.array .double)) (t' := .int) (by decide) (by decide)))
      have F37 := F20.other W32 (Or.inr (slot_ne (Or.inr (Own.wd hw 19 rfl)) (Or.inl (Own.wd hw 38 rfl)) (by decide) (t := (.array .long)) (t' := .int) (by decide) (by decide)))
      have F38 := F21.other W32 (Or.inr (slot_ne (Or.inl (Own.wd hw 26 rfl)) (Or.inl (Own.wd hw 38 rfl)) (by decide) (t := .int) (t' := .int) (by decide) (by decide)))
      have F39 := F22.other W32 (Or.inr (slot_ne (Or.inl (Own.wd hw 40 rfl)) (Or.inl (Own.wd hw 38 rfl)) (by decide) (t := .int) (t' := .int) (by decide) (by decide)))
      have F40 := F23.other W32 (Ne.symm nq3)
      have F41 := F24.other W32 (Ne.symm nq1)
      have F42 := F25.other W32 (Ne.symm nq2)
      have F43 : Fld Z h32 a "com/example/allocus/allocus/method/Population" "worst" "I" (.int (1 : Int32)) := Fld.same W32 F26
      have Z44 : n0 ≤ h32.size := by rw [W32.size]; exact Z27
      exact J104_64 _ _ _ (if_pos h104).symm (X32.more (by decide) (by decide)) Z44 F33 F34 F35 F36 F37 F38 F39 F40 F41 F42 F43
    · refine Own.aloadN X31 d6_108 rfl rfl ?_
      refine Own.getF_ X31 d6_109 (host := "") (Or.inl (Own.wd hw 15 rfl)) Via.refl F19 fun T45 X45 => ?_
      clear X31
      refine Own.iload X45 d6_112 rfl ?_
      refine Own.daload_ X45 d6_114 F24 (by decide) rfl ?_
      refine Own.aloadN X45 d6_115 rfl rfl ?_
      refine Own.getF_ X45 d6_116 (host := "") (Or.inl (Own.wd hw 15 rfl)) Via.refl F19 fun T46 X46 => ?_
      clear X45
      refine Own.aloadN X46 d6_119 rfl rfl ?_
      refine Own.getF_ X46 d6_120 (host := "") (Or.inl (Own.wd hw 37 rfl)) Via.refl F26 fun T47 X47 => ?_
      clear X46
      refine Own.daload_ X47 d6_123 F24 (by decide) rfl ?_
      refine Own.dcmpF X47 (pc' := 154) d6_124 d6_125 (by decide) n_b1 n_dv (fun (h124 : ¬ (Own.dz b1 = Own.dz dv)) => ?_) (fun h124' => ?_)
      · exact J104_64 _ _ _ ((if_neg h104).trans (if_neg h124)).symm (X47.more (by decide) (by decide)) Z27 F16 F17 F18 F19 F20 F21 F22 F23 F24 F25 F26
      · have h124 : Own.dz b1 = Own.dz dv := Classical.not_not.mp h124'
        refine Own.aloadN X47 d6_128 rfl rfl ?_
        refine Own.getF_ X47 d6_129 (host := "") (Or.inl (Own.wd hw 18 rfl)) Via.refl F20 fun T48 X48 => ?_
        clear X47
        refine Own.iload X48 d6_132 rfl ?_
        refine Own.laload_ X48 d6_134 F25 (by decide) rfl ?_
        refine Own.aloadN X48 d6_135 rfl rfl ?_
        refine Own.getF_ X48 d6_136 (host := "") (Or.inl (Own.wd hw 18 rfl)) Via.refl F20 fun T49 X49 => ?_
        clear X48
        refine Own.aloadN X49 d6_139 rfl rfl ?_
        refine Own.getF_ X49 d6_140 (host := "") (Or.inl (Own.wd hw 37 rfl)) Via.refl F26 fun T50 X50 => ?_
        clear X49
        refine Own.laload_ X50 d6_143 F25 (by decide) rfl ?_
        refine Own.lcmpF X50 (pc' := 154) d6_144 d6_145 (by decide) (fun (h144 : eJ.toInt ≤ m1.toInt) => ?_) (fun (h144 : ¬ (eJ.toInt ≤ m1.toInt)) => ?_)
        · exact J104_64 _ _ _ (((if_neg h104).trans (if_pos h124)).trans (if_pos h144)).symm (X50.more (by decide) (by decide)) Z27 F16 F17 F18 F19 F20 F21 F22 F23 F24 F25 F26
        · refine Own.aloadN X50 d6_148 rfl rfl ?_
          refine Own.iload X50 d6_149 rfl ?_
          refine Own.putF_ X50 d6_151 (host := "") (Or.inl (Own.wd hw 37 rfl)) Via.refl F26 F16 (Or.inl (Own.wd hw 38 rfl)) (Own.wd hw 2 rfl) (ty := .int) (by decide) rfl rfl fq0 fun T51 h51 X51 W51 => ?_
          have F52 := F16.wr W51
          have F53 := F17.wr W51 (Or.inl (List.mem_of_getElem? (i := 0) rfl))
          have F54 := F18.other W51 (Or.inr (slot_ne (Or.inr (Own.wd hw 13 rfl)) (Or.inl (Own.wd hw 38 rfl)) (by decide) (t := (.array (.array .int))) (t' := .int) (by decide) (by decide)))
          have F55 := F19.other W51 (Or.inr (slot_ne (Or.inr (Own.wd hw 16 rfl)) (Or.inl (Own.wd hw 38 rfl)) (by decide) (t := (.array .double)) (t' := .int) (by decide) (by decide)))
          have F56 := F20.other W51 (Or.inr (slot_ne (Or.inr (Own.wd hw 19 rfl)) (Or.inl (Own.wd hw 38 rfl)) (by decide) (t := (.array .long)) (t' := .int) (by decide) (by decide)))
          have F57 := F21.other W51 (Or.inr (slot_ne (Or.inl (Own.wd hw 26 rfl)) (Or.inl (Own.wd hw 38 rfl)) (by decide) (t := .int) (t' := .int) (by decide) (by decide)))
          have F58 := F22.other W51 (Or.inr (slot_ne (Or.inl (Own.wd hw 40 rfl)) (Or.inl (Own.wd hw 38 rfl)) (by decide) (t := .int) (t' := .int) (by decide) (by decide)))
          have F59 := F23.other W51 (Ne.symm nq3)
          have F60 := F24.other W51 (Ne.symm nq1)
          have F61 := F25.other W51 (Ne.symm nq2)
          have F62 : Fld Z h51 a "com/example/allocus/allocus/method/Population" "worst" "I" (.int (1 : Int32)) := Fld.same W51 F26
          have Z63 : n0 ≤ h51.size := by rw [W51.size]; exact Z27
          exact J104_64 _ _ _ (((if_neg h104).trans (if_pos h124)).trans (if_neg h144)).symm (X51.more (by decide) (by decide)) Z63 F52 F53 F54 F55 F56 F57 F58 F59 F60 F61 F62
  intro T64 h64 z154_76 e_z154_76 X64 Z64 F65 F66 F67 F68 F69 F70 F71 F72 F73 F74 F75
  obtain ⟨bz_z154_76, mz_z154_76, hj_z154_76, hvb_z154_76, hvm_z154_76, n_bz_z154_76⟩ : ∃ (bb : UInt64) (mm : Int64), (¬ z154_76 < 0 ∧ z154_76 < (3 : Int32)) ∧ ([.double dv, .double b1, .double b2] : List Value).getD z154_76.toNatClampNeg (.double 0) = .double bb ∧ ([.long eJ, .long m1, .long m2] : List Value).getD z154_76.toNatClampNeg (.long (0 : Int64)) = .long mm ∧ NoNaN64 bb := by
    have hz : z154_76 = 0 ∨ z154_76 = 1 := own_01 e_z154_76
    rcases hz with hz | hz <;> rw [hz]
    · exact ⟨dv, eJ, by decide, rfl, rfl, n_dv⟩
    · exact ⟨b1, m1, by decide, rfl, rfl, n_b1⟩
  clear X31
  refine Own.iinc X64 d6_154 rfl (l' := #[.val (.ref a), .val (.ref si), .val (.double dv), .second, .val (.int (0 : Int32)), .val (.int (0 : Int32)), .val (.int (2 : Int32))]) rfl ?_
  refine Own.goto_ X64 (pc' := 79) d6_157 (by decide) ?_
  refine Own.iload X64 d6_79 rfl ?_
  refine Own.aloadN X64 d6_81 rfl rfl ?_
  refine Own.getF_ X64 d6_82 (host := "") (Or.inl (Own.wd hw 25 rfl)) Via.refl F70 fun T77 X77 => ?_
  clear X64
  refine Own.icmp_ X77 (pc' := 160) d6_85 (by decide) (fun q => absurd (show (3 : Int) ≤ (2 : Int) from q) (show ¬ ((3 : Int) ≤ (2 : Int)) from by decide)) (fun _ => ?_)
  refine Own.aloadN X77 d6_88 rfl rfl ?_
  refine Own.getF_ X77 d6_89 (host := "") (Or.inl (Own.wd hw 15 rfl)) Via.refl F68 fun T78 X78 => ?_
  clear X77
  refine Own.iload X78 d6_92 rfl ?_
  refine Own.daload_ X78 d6_94 F73 (by decide) rfl ?_
  refine Own.aloadN X78 d6_95 rfl rfl ?_
  refine Own.getF_ X78 d6_96 (host := "") (Or.inl (Own.wd hw 15 rfl)) Via.refl F68 fun T79 X79 => ?_
  clear X78
  refine Own.aloadN X79 d6_99 rfl rfl ?_
  refine Own.getF_ X79 d6_100 (host := "") (Or.inl (Own.wd hw 37 rfl)) Via.refl F75 fun T80 X80 => ?_
  clear X79
  refine Own.daload_ X80 d6_103 F73 hj_z154_76 hvb_z154_76 ?_
  suffices J104_113 : ∀ (T113 : State) (h113 : Heap), ∀ (z154_125 : Int32), z154_125 = (if Own.dz bz_z154_76 < Own.dz b2 then (2 : Int32) else (if Own.dz b2 = Own.dz bz_z154_76 then (if mz_z154_76.toInt ≤ m2.toInt then z154_76 else (2 : Int32)) else z154_76)) → Own.St p l e ({ frames := 3, cells := 0, slots := 0, locals := 48 } : Room) s m #[.ref a, .ref si, .double dv] below meth c Z prog_48_method_6_code "com/example/allocus/allocus/method/Population" "offer" 7 (some .boolean) n0 T113 h113 0 0 → n0 ≤ h113.size → Exa Z h113 a "com/example/allocus/allocus/method/Population" → Keep h0 h113 [a, x0, oa, na] → Fld Z h113 a "com/example/allocus/allocus/method/Population" "plans" "[[I" (.ref pl) → Fld Z h113 a "com/example/allocus/allocus/method/Population" "objectives" "[D" (.ref oa) → Fld Z h113 a "com/example/allocus/allocus/method/Population" "entered" "[J" (.ref na) → Fld Z h113 a "com/example/allocus/allocus/method/Population" "count" "I" (.int (3 : Int32)) → Fld Z h113 a "com/example/allocus/allocus/method/Population" "best" "I" (.int be) → Arv Z h113 x0 c_pl .int (1 : Int32) [.int y0] (.int (0 : Int32)) → Arv Z h113 oa k_oa .double (3 : Int32) [.double dv, .double b1, .double b2] (.double 0) → Arv Z h113 na k_na .long (3 : Int32) [.long eJ, .long m1, .long m2] (.long (0 : Int64)) → Fld Z h113 a "com/example/allocus/allocus/method/Population" "worst" "I" (.int z154_125) → Own.Go p e below s n0 (fun v h => v = some (.int (0 : Int32)) ∧ Keep h0 h [a, x0, oa, na] ∧ Fld Z h a "com/example/allocus/allocus/method/Population" "plans" "[[I" (.ref pl) ∧ Fld Z h a "com/example/allocus/allocus/method/Population" "best" "I" (.int be) ∧ Arv Z h x0 c_pl .int (1 : Int32) [.int y0] (.int (0 : Int32))) 0 0 (T113.setTop (mkF m 154 #[.val (.ref a), .val (.ref si), .val (.double dv), .second, .val (.int (0 : Int32)), .val (.int (0 : Int32)), .val (.int (2 : Int32))] [])) by
    refine Own.dcmpF X80 (pc' := 148) d6_104 d6_105 (by decide) n_b2 n_bz_z154_76 (fun (h104 : Own.dz bz_z154_76 < Own.dz b2) => ?_) (fun (h104 : ¬ (Own.dz bz_z154_76 < Own.dz b2)) => ?_)
    · refine Own.aloadN X80 d6_148 rfl rfl ?_
      refine Own.iload X80 d6_149 rfl ?_
      refine Own.putF_ X80 d6_151 (host := "") (Or.inl (Own.wd hw 37 rfl)) Via.refl F75 F65 (Or.inl (Own.wd hw 38 rfl)) (Own.wd hw 2 rfl) (ty := .int) (by decide) rfl rfl fq0 fun T81 h81 X81 W81 => ?_
      have F82 := F65.wr W81
      have F83 := F66.wr W81 (Or.inl (List.mem_of_getElem? (i := 0) rfl))
      have F84 := F67.other W81 (Or.inr (slot_ne (Or.inr (Own.wd hw 13 rfl)) (Or.inl (Own.wd hw 38 rfl)) (by decide) (t := (.array (.array .int))) (t' := .int) (by decide) (by decide)))
      have F85 := F68.other W81 (Or.inr (slot_ne (Or.inr (Own.wd hw 16 rfl)) (Or.inl (Own.wd hw 38 rfl)) (by decide) (t := (.array .double)) (t' := .int) (by decide) (by decide)))
      have F86 := F69.other W81 (Or.inr (slot_ne (Or.inr (Own.wd hw 19 rfl)) (Or.inl (Own.wd hw 38 rfl)) (by decide) (t := (.array .long)) (t' := .int) (by decide) (by decide)))
      have F87 := F70.other W81 (Or.inr (slot_ne (Or.inl (Own.wd hw 26 rfl)) (Or.inl (Own.wd hw 38 rfl)) (by decide) (t := .int) (t' := .int) (by decide) (by decide)))
      have F88 := F71.other W81 (Or.inr (slot_ne (Or.inl (Own.wd hw 40 rfl)) (Or.inl (Own.wd hw 38 rfl)) (by decide) (t := .int) (t' := .int) (by decide) (by decide)))
      have F89 := F72.other W81 (Ne.symm nq3)
      have F90 := F73.other W81 (Ne.symm nq1)
      have F91 := F74.other W81 (Ne.symm nq2)
      have F92 : Fld Z h81 a "com/example/allocus/allocus/method/Population" "worst" "I" (.int (2 : Int32)) := Fld.same W81 F75
      have Z93 : n0 ≤ h81.size := by rw [W81.size]; exact Z64
      exact J104_113 _ _ _ (if_pos h104).symm (X81.more (by decide) (by decide)) Z93 F82 F83 F84 F85 F86 F87 F88 F89 F90 F91 F92
    · refine Own.aloadN X80 d6_108 rfl rfl ?_
      refine Own.getF_ X80 d6_109 (host := "") (Or.inl (Own.wd hw 15 rfl)) Via.refl F68 fun T94 X94 => ?_
      clear X80
      refine Own.iload X94 d6_112 rfl ?_
      refine Own.daload_ X94 d6_114 F73 (by decide) rfl ?_
      refine Own.aloadN X94 d6_115 rfl rfl ?_
      refine Own.getF_ X94 d6_116 (host := "") (Or.inl (Own.wd hw 15 rfl)) Via.refl F68 fun T95 X95 => ?_
      clear X94
      refine Own.aloadN X95 d6_119 rfl rfl ?_
      refine Own.getF_ X95 d6_120 (host := "") (Or.inl (Own.wd hw 37 rfl)) Via.refl F75 fun T96 X96 => ?_
      clear X95
      refine Own.daload_ X96 d6_123 F73 hj_z154_76 hvb_z154_76 ?_
      refine Own.dcmpF X96 (pc' := 154) d6_124 d6_125 (by decide) n_b2 n_bz_z154_76 (fun (h124 : ¬ (Own.dz b2 = Own.dz bz_z154_76)) => ?_) (fun h124' => ?_)
      · exact J104_113 _ _ _ ((if_neg h104).trans (if_neg h124)).symm (X96.more (by decide) (by decide)) Z64 F65 F66 F67 F68 F69 F70 F71 F72 F73 F74 F75
      · have h124 : Own.dz b2 = Own.dz bz_z154_76 := Classical.not_not.mp h124'
        refine Own.aloadN X96 d6_128 rfl rfl ?_
        refine Own.getF_ X96 d6_129 (host := "") (Or.inl (Own.wd hw 18 rfl)) Via.refl F69 fun T97 X97 => ?_
        clear X96
        refine Own.iload X97 d6_132 rfl ?_
        refine Own.laload_ X97 d6_134 F74 (by decide) rfl ?_
        refine Own.aloadN X97 d6_135 rfl rfl ?_
        refine Own.getF_ X97 d6_136 (host := "") (Or.inl (Own.wd hw 18 rfl)) Via.refl F69 fun T98 X98 => ?_
        clear X97
        refine Own.aloadN X98 d6_139 rfl rfl ?_
        refine Own.getF_ X98 d6_140 (host := "") (Or.inl (Own.wd hw 37 rfl)) Via.refl F75 fun T99 X99 => ?_
        clear X98
        refine Own.laload_ X99 d6_143 F74 hj_z154_76 hvm_z154_76 ?_
        refine Own.lcmpF X99 (pc' := 154) d6_144 d6_145 (by decide) (fun (h144 : mz_z154_76.toInt ≤ m2.toInt) => ?_) (fun (h144 : ¬ (mz_z154_76.toInt ≤ m2.toInt)) => ?_)
        · exact J104_113 _ _ _ (((if_neg h104).trans (if_pos h124)).trans (if_pos h144)).symm (X99.more (by decide) (by decide)) Z64 F65 F66 F67 F68 F69 F70 F71 F72 F73 F74 F75
        · refine Own.aloadN X99 d6_148 rfl rfl ?_
          refine Own.iload X99 d6_149 rfl ?_
          refine Own.putF_ X99 d6_151 (host := "") (Or.inl (Own.wd hw 37 rfl)) Via.refl F75 F65 (Or.inl (Own.wd hw 38 rfl)) (Own.wd hw 2 rfl) (ty := .int) (by decide) rfl rfl fq0 fun T100 h100 X100 W100 => ?_
          have F101 := F65.wr W100
          have F102 := F66.wr W100 (Or.inl (List.mem_of_getElem? (i := 0) rfl))
          have F103 := F67.other W100 (Or.inr (slot_ne (Or.inr (Own.wd hw 13 rfl)) (Or.inl (Own.wd hw 38 rfl)) (by decide) (t := (.array (.array .int))) (t' := .int) (by decide) (by decide)))
          have F104 := F68.other W100 (Or.inr (slot_ne (Or.inr (Own.wd hw 16 rfl)) (Or.inl (Own.wd hw 38 rfl)) (by decide) (t := (.array .double)) (t' := .int) (by decide) (by decide)))
          have F105 := F69.other W100 (Or.inr (slot_ne (Or.inr (Own.wd hw 19 rfl)) (Or.inl (Own.wd hw 38 rfl)) (by decide) (t := (.array .long)) (t' := .int) (by decide) (by decide)))
          have F106 := F70.other W100 (Or.inr (slot_ne (Or.inl (Own.wd hw 26 rfl)) (Or.inl (Own.wd hw 38 rfl)) (by decide) (t := .int) (t' := .int) (by decide) (by decide)))
          have F107 := F71.other W100 (Or.inr (slot_ne (Or.inl (Own.wd hw 40 rfl)) (Or.inl (Own.wd hw 38 rfl)) (by decide) (t := .int) (t' := .int) (by decide) (by decide)))
          have F108 := F72.other W100 (Ne.symm nq3)
          have F109 := F73.other W100 (Ne.symm nq1)
          have F110 := F74.other W100 (Ne.symm nq2)
          have F111 : Fld Z h100 a "com/example/allocus/allocus/method/Population" "worst" "I" (.int (2 : Int32)) := Fld.same W100 F75
          have Z112 : n0 ≤ h100.size := by rw [W100.size]; exact Z64
          exact J104_113 _ _ _ (((if_neg h104).trans (if_pos h124)).trans (if_neg h144)).symm (X100.more (by decide) (by decide)) Z112 F101 F102 F103 F104 F105 F106 F107 F108 F109 F110 F111
  intro T113 h113 z154_125 e_z154_125 X113 Z113 F114 F115 F116 F117 F118 F119 F120 F121 F122 F123 F124
  skip
  clear X80
  refine Own.iinc X113 d6_154 rfl (l' := #[.val (.ref a), .val (.ref si), .val (.double dv), .second, .val (.int (0 : Int32)), .val (.int (0 : Int32)), .val (.int (3 : Int32))]) rfl ?_
  refine Own.goto_ X113 (pc' := 79) d6_157 (by decide) ?_
  refine Own.iload X113 d6_79 rfl ?_
  refine Own.aloadN X113 d6_81 rfl rfl ?_
  refine Own.getF_ X113 d6_82 (host := "") (Or.inl (Own.wd hw 25 rfl)) Via.refl F119 fun T126 X126 => ?_
  clear X113
  refine Own.icmp_ X126 (pc' := 160) d6_85 (by decide) (fun _ => ?_) (fun q => absurd (show (3 : Int) ≤ (3 : Int) from by decide) q)
  refine Own.iload X126 d6_160 rfl ?_
  exact Own.retB X126 d6_162 (by decide) ⟨rfl, F115, F116, F120, F121⟩ (by decide) (by decide)
theorem ef_6_0R (m : MethodId) (x0 : Addr) (x1 : Addr) (x2 : UInt64) : entryFrame m #[.ref x0, .ref x1, .double x2] 7 = mkF m 0 #[.val (.ref x0), .val (.ref x1), .val (.double x2), .second, .unset, .unset, .unset] [] := by first | (simp [entryFrame, mkF, argsToLocals, Value.category, maxLocals]; done) | rfl
set_option maxRecDepth 65536 in
set_option maxHeartbeats 40000000 in
theorem rm6_0R (l : Launch) (Z : State) (a0 : Array Value) (hw : ∀ d ∈ tables_1, d.before a0 Z = true) (a : Addr) (si : Addr) (dv : UInt64) (oa : Addr) (k_oa : ClassId) (b0 : UInt64) (b1 : UInt64) (b2 : UInt64) (h0 : Heap) (n0 : Nat) (Z0 : n0 ≤ h0.size) (fc0 : Fld Z h0 a "com/example/allocus/allocus/method/Population" "objectives" "[D" (.ref oa)) (fc1 : Fld Z h0 a "com/example/allocus/allocus/method/Population" "worst" "I" (.int (0 : Int32))) (fc2 : Arv Z h0 oa k_oa .double (3 : Int32) [.double b0, .double b1, .double b2] (.double 0)) (n_dv : NoNaN64 dv) (n_b0 : NoNaN64 b0) (cw : Own.dz b0 ≤ Own.dz dv) :
    Own.Con l Z mn_11 [] prog_48_method_6_code 7 (some .boolean) ({ frames := 0, cells := 0, slots := 0, locals := 0 } : Room) #[.ref a, .ref si, .double dv] h0 n0 (fun v h => v = some (.int (0 : Int32)) ∧ h0 = h) := by
  refine Own.enter (own := "com/example/allocus/allocus/method/Population") (nm := "offer") (plainFor_of_name pn_com_example_allocus_allocus_method_Population) rfl rfl (fun m => ef_6_0R m a si dv) fun p e s m below meth c T X => ?_
  refine Own.dloadN X d6_0 rfl ?_
  refine Own.aloadN X d6_1 rfl rfl ?_
  refine Own.getF_ X d6_2 (host := "") (Or.inl (Own.wd hw 15 rfl)) Via.refl fc0 fun T1 X1 => ?_
  clear X
  refine Own.aloadN X1 d6_5 rfl rfl ?_
  refine Own.getF_ X1 d6_6 (host := "") (Or.inl (Own.wd hw 37 rfl)) Via.refl fc1 fun T2 X2 => ?_
  clear X1
  refine Own.daload_ X2 d6_9 fc2 (by decide) rfl ?_
  refine Own.dcmpF X2 (pc' := 23) d6_10 d6_11 (by decide) n_dv n_b0 (fun _ => ?_) (fun q => absurd (show Own.dz b0 ≤ Own.dz dv from by omega) q)
  refine Own.iconst X2 (v := 0) d6_23 rfl ?_
  exact Own.retB X2 d6_24 (by decide) ⟨rfl, rfl⟩ (by decide) (by decide)
theorem ef_6_1N (m : MethodId) (x0 : Addr) (x1 : Addr) (x2 : UInt64) : entryFrame m #[.ref x0, .ref x1, .double x2] 7 = mkF m 0 #[.val (.ref x0), .val (.ref x1), .val (.double x2), .second, .unset, .unset, .unset] [] := by first | (simp [entryFrame, mkF, argsToLocals, Value.category, maxLocals]; done) | rfl
set_option maxRecDepth 65536 in
set_option maxHeartbeats 40000000 in
theorem rm6_1N (l : Launch) (Z : State) (a0 : Array Value) (hw : ∀ d ∈ tables_1, d.before a0 Z = true) (a : Addr) (si : Addr) (dv : UInt64) (pl : Addr) (oa : Addr) (na : Addr) (x0 : Addr) (x1 : Addr) (x2 : Addr) (k_pl : ClassId) (c_pl : ClassId) (k_oa : ClassId) (k_na : ClassId) (b0 : UInt64) (b1 : UInt64) (b2 : UInt64) (m0 : Int64) (m1 : Int64) (m2 : Int64) (eJ : Int64) (k_si : ClassId) (y0 : Int32) (be : Int32) (u00 : Int32) (u10 : Int32) (u20 : Int32) (h0 : Heap) (n0 : Nat) (Z0 : n0 ≤ h0.size) (fc0 : Exa Z h0 a "com/example/allocus/allocus/method/Population") (fc1 : Fld Z h0 a "com/example/allocus/allocus/method/Population" "plans" "[[I" (.ref pl)) (fc2 : Fld Z h0 a "com/example/allocus/allocus/method/Population" "objectives" "[D" (.ref oa)) (fc3 : Fld Z h0 a "com/example/allocus/allocus/method/Population" "entered" "[J" (.ref na)) (fc4 : Fld Z h0 a "com/example/allocus/allocus/method/Population" "count" "I" (.int (3 : Int32))) (fc5 : Fld Z h0 a "com/example/allocus/allocus/method/Population" "entries" "J" (.long eJ)) (fc6 : Fld Z h0 a "com/example/allocus/allocus/method/Population" "worst" "I" (.int (1 : Int32))) (fc7 : Fld Z h0 a "com/example/allocus/allocus/method/Population" "best" "I" (.int be)) (fc8 : Arv Z h0 pl k_pl (.array .int) (3 : Int32) [.ref x0, .ref x1, .ref x2] (.null)) (fc9 : Arv Z h0 x0 c_pl .int (1 : Int32) [.int u00] (.int (0 : Int32))) (fc10 : Arv Z h0 x1 c_pl .int (1 : Int32) [.int u10] (.int (0 : Int32))) (fc11 : Arv Z h0 x2 c_pl .int (1 : Int32) [.int u20] (.int (0 : Int32))) (fc12 : Arv Z h0 oa k_oa .double (3 : Int32) [.double b0, .double b1, .double b2] (.double 0)) (fc13 : Arv Z h0 na k_na .long (3 : Int32) [.long m0, .long m1, .long m2] (.long (0 : Int64))) (fc14 : Arv Z h0 si k_si .int (1 : Int32) [.int y0] (.int (0 : Int32))) (nq0 : a ≠ pl) (nq1 : a ≠ oa) (nq2 : a ≠ na) (nq3 : a ≠ x0) (nq4 : a ≠ x1) (nq5 : a ≠ x2) (nq6 : pl ≠ oa) (nq7 : pl ≠ na) (nq8 : pl ≠ x0) (nq9 : pl ≠ x1) (nq10 : pl ≠ x2) (nq11 : oa ≠ na) (nq12 : oa ≠ x0) (nq13 : oa ≠ x1) (nq14 : oa ≠ x2) (nq15 : na ≠ x0) (nq16 : na ≠ x1) (nq17 : na ≠ x2) (nq18 : x0 ≠ x1) (nq19 : x0 ≠ x2) (nq20 : x1 ≠ x2) (nq21 : si ≠ a) (nq22 : si ≠ pl) (nq23 : si ≠ oa) (nq24 : si ≠ na) (nq25 : si ≠ x0) (nq26 : si ≠ x1) (nq27 : si ≠ x2) (fq0 : n0 ≤ a) (fq1 : n0 ≤ x0) (fq2 : n0 ≤ x1) (fq3 : n0 ≤ x2) (fq4 : n0 ≤ oa) (fq5 : n0 ≤ na) (n_dv : NoNaN64 dv) (n_b0 : NoNaN64 b0) (n_b1 : NoNaN64 b1) (n_b2 : NoNaN64 b2) (cw : Own.dz dv < Own.dz b1) (bx : UInt64) (hj : ¬ be < 0 ∧ be < (3 : Int32)) (hv : ([.double b0, .double b1, .double b2] : List Value).getD be.toNatClampNeg (.double 0) = .double bx) (n_bx : NoNaN64 bx) (cx : Own.dz dv < Own.dz bx) (qm0 : ¬ (u00.toInt = y0.toInt)) (qm1 : ¬ (u10.toInt = y0.toInt)) (qm2 : ¬ (u20.toInt = y0.toInt)) :
    Own.Con l Z mn_11 [] prog_48_method_6_code 7 (some .boolean) ({ frames := 3, cells := 0, slots := 0, locals := 48 } : Room) #[.ref a, .ref si, .double dv] h0 n0 (fun v h => v = some (.int (1 : Int32)) ∧ Keep h0 h [a, x1, oa, na] ∧ Fld Z h a "com/example/allocus/allocus/method/Population" "plans" "[[I" (.ref pl) ∧ Fld Z h a "com/example/allocus/allocus/method/Population" "best" "I" (.int (1 : Int32)) ∧ Arv Z h x1 c_pl .int (1 : Int32) [.int y0] (.int (0 : Int32))) := by
  refine Own.enter (own := "com/example/allocus/allocus/method/Population") (nm := "offer") (plainFor_of_name pn_com_example_allocus_allocus_method_Population) rfl rfl (fun m => ef_6_1N m a si dv) fun p e s m below meth c T X => ?_
  refine Own.dloadN X d6_0 rfl ?_
  refine Own.aloadN X d6_1 rfl rfl ?_
  refine Own.getF_ X d6_2 (host := "") (Or.inl (Own.wd hw 15 rfl)) Via.refl fc2 fun T1 X1 => ?_
  clear X
  refine Own.aloadN X1 d6_5 rfl rfl ?_
  refine Own.getF_ X1 d6_6 (host := "") (Or.inl (Own.wd hw 37 rfl)) Via.refl fc6 fun T2 X2 => ?_
  clear X1
  refine Own.daload_ X2 d6_9 fc12 (by decide) rfl ?_
  refine Own.dcmpF X2 (pc' := 23) d6_10 d6_11 (by decide) n_dv n_b1 (fun q => absurd (show Own.dz b1 ≤ Own.dz dv from q) (show ¬ (Own.dz b1 ≤ Own.dz dv) from by omega)) (fun _ => ?_)
  refine Own.aloadN X2 d6_14 rfl rfl ?_
  refine Own.aloadN X2 d6_15 rfl rfl ?_
  refine Own.dloadN X2 d6_16 rfl ?_
  refine Own.callP_ (y := mn_9) (D := "com/example/allocus/allocus/method/Population") (z' := mn_3) (z := mn_3) (a := a) X2 d6_17 (Own.wd hw 60 rfl) (Own.wd hw 61 rfl) (Own.wd hw 23 rfl) rfl (Own.wd hw 62 rfl) (Own.wd hw 3 rfl) (Own.wd hw 63 rfl) (by decide) fc0 (rm7 l Z a0 hw a si dv pl x0 x1 x2 k_pl c_pl oa k_oa k_si y0 b0 b1 b2 u00 u10 u20 h0 n0 Z0 fc1 fc2 fc4 fc8 fc12 fc14 fc9 fc10 fc11 (Ne.symm nq25) (Ne.symm nq26) (Ne.symm nq27) n_dv n_b0 n_b1 n_b2 qm0 qm1 qm2) (lenOf pd_10 rfl) rfl (argsL := [.ref si, .double dv]) (rest := []) rfl (W := 0) (Nat.le_of_eq rfl) (by decide) (by decide) (by decide) (by decide) fun T3 h3 v3 X3 q3 => ?_
  obtain ⟨rfl, rfl⟩ := q3
  show Own.Go p e below s n0 _ _ _ (T3.setTop (mkF m 20 _ [.int (0 : Int32)]))
  clear X2
  refine Own.iff_ X3 (pc' := 25) d6_20 (by decide) (fun _ => ?_) (fun q => absurd (show (0 : Int) = (0 : Int) from by decide) q)
  refine Own.dloadN X3 d6_25 rfl ?_
  refine Own.aloadN X3 d6_26 rfl rfl ?_
  refine Own.getF_ X3 d6_27 (host := "") (Or.inl (Own.wd hw 15 rfl)) Via.refl fc2 fun T4 X4 => ?_
  clear X3
  refine Own.aloadN X4 d6_30 rfl rfl ?_
  refine Own.getF_ X4 d6_31 (host := "") (Or.inl (Own.wd hw 39 rfl)) Via.refl fc7 fun T5 X5 => ?_
  clear X4
  refine Own.daload_ X5 d6_34 fc12 hj hv ?_
  refine Own.dcmpF X5 (pc' := 43) d6_35 d6_36 (by decide) n_dv n_bx (fun q => absurd (show Own.dz bx ≤ Own.dz dv from q) (show ¬ (Own.dz bx ≤ Own.dz dv) from by omega)) (fun _ => ?_)
  refine Own.iconst X5 (v := 1) d6_39 rfl ?_
  refine Own.goto_ X5 (pc' := 44) d6_40 (by decide) ?_
  refine Own.istore X5 d6_44 (l' := #[.val (.ref a), .val (.ref si), .val (.double dv), .second, .val (.int (1 : Int32)), .unset, .unset]) rfl ?_
  refine Own.aloadN X5 d6_46 rfl rfl ?_
  refine Own.getF_ X5 d6_47 (host := "") (Or.inl (Own.wd hw 37 rfl)) Via.refl fc6 fun T6 X6 => ?_
  clear X5
  refine Own.istore X6 d6_50 (l' := #[.val (.ref a), .val (.ref si), .val (.double dv), .second, .val (.int (1 : Int32)), .val (.int (1 : Int32)), .unset]) rfl ?_
  refine Own.aloadN X6 d6_52 rfl rfl ?_
  refine Own.iload X6 d6_53 rfl ?_
  refine Own.aloadN X6 d6_55 rfl rfl ?_
  refine Own.dloadN X6 d6_56 rfl ?_
  refine Own.callP_ (y := mn_1) (D := "com/example/allocus/allocus/method/Population") (z' := mn_3) (z := mn_3) (a := a) X6 d6_57 (Own.wd hw 27 rfl) (Own.wd hw 28 rfl) (Own.wd hw 23 rfl) rfl (Own.wd hw 29 rfl) (Own.wd hw 3 rfl) (Own.wd hw 30 rfl) (by decide) fc0 (rm4_1 l Z a0 hw a si dv pl oa na x0 x1 x2 k_pl c_pl k_oa k_na b0 b1 b2 m0 m1 m2 eJ k_si y0 u10 (3 : Int32) (1 : Int32) be h0 n0 Z0 fc0 fc1 fc2 fc3 fc4 fc5 fc6 fc7 fc8 fc10 fc12 fc13 fc14 nq0 nq1 nq2 nq3 nq4 nq5 nq6 nq7 nq8 nq9 nq10 nq11 nq12 nq13 nq14 nq15 nq16 nq17 nq18 nq19 nq20 nq21 nq22 nq23 nq24 nq25 nq26 nq27 fq0 fq1 fq2 fq3 fq4 fq5 ) (lenOf pd_2 rfl) rfl (argsL := [.int (1 : Int32), .ref si, .double dv]) (rest := []) rfl (W := 0) (Nat.le_of_eq rfl) (by decide) (by decide) (by decide) (by decide) fun T7 h7 v7 X7 q7 => ?_
  obtain ⟨rfl, K7, G7_0, G7_1, G7_2, G7_3, G7_4, G7_5, G7_6, G7_7, G7_8, G7_9⟩ := q7
  have F8 := fc0.keep K7
  have F9 := fc8.keep K7 (ninS (Ne.symm nq0) (ninS nq9 (ninS nq6 (ninS nq7 nin0))))
  have F10 := fc9.keep K7 (ninS (Ne.symm nq3) (ninS nq18 (ninS (Ne.symm nq12) (ninS (Ne.symm nq15) nin0))))
  have F11 := fc11.keep K7 (ninS (Ne.symm nq5) (ninS (Ne.symm nq20) (ninS (Ne.symm nq14) (ninS (Ne.symm nq17) nin0))))
  have F12 := fc14.keep K7 (ninS nq21 (ninS nq26 (ninS nq23 (ninS nq24 nin0))))
  have F13 := (Keep.refl h0 [a, x1, oa, na]).trans K7 (allS (Or.inl (List.mem_of_getElem? (i := 0) rfl)) (allS (Or.inl (List.mem_of_getElem? (i := 1) rfl)) (allS (Or.inl (List.mem_of_getElem? (i := 2) rfl)) (allS (Or.inl (List.mem_of_getElem? (i := 3) rfl)) all0))))
  have Z14 : n0 ≤ h7.size := Nat.le_trans Z0 K7.1
  show Own.Go p e below s n0 _ _ _ (T7.setTop (mkF m 60 _ []))
  clear X6 fc0 fc1 fc10 fc11 fc12 fc13 fc14 fc2 fc3 fc4 fc5 fc6 fc7 fc8 fc9
  refine Own.iload X7 d6_60 rfl ?_
  refine Own.iff_ X7 (pc' := 71) d6_62 (by decide) (fun q => absurd (show (1 : Int) = (0 : Int) from q) (show ¬ ((1 : Int) = (0 : Int)) from by decide)) (fun _ => ?_)
  refine Own.aloadN X7 d6_65 rfl rfl ?_
  refine Own.iload X7 d6_66 rfl ?_
  refine Own.putF_ X7 d6_68 (host := "") (Or.inl (Own.wd hw 39 rfl)) Via.refl G7_6 F8 (Or.inl (Own.wd hw 40 rfl)) (Own.wd hw 2 rfl) (ty := .int) (by decide) rfl rfl fq0 fun T15 h15 X15 W15 => ?_
  have F16 := F8.wr W15
  have F17 := F9.other W15 (Ne.symm nq0)
  have F18 := F10.other W15 (Ne.symm nq3)
  have F19 := F11.other W15 (Ne.symm nq5)
  have F20 := F12.other W15 nq21
  have F21 := F13.wr W15 (Or.inl (List.mem_of_getElem? (i := 0) rfl))
  have F22 := G7_0.other W15 (Or.inr (slot_ne (Or.inr (Own.wd hw 13 rfl)) (Or.inl (Own.wd hw 40 rfl)) (by decide) (t := (.array (.array .int))) (t' := .int) (by decide) (by decide)))
  have F23 := G7_1.other W15 (Or.inr (slot_ne (Or.inr (Own.wd hw 16 rfl)) (Or.inl (Own.wd hw 40 rfl)) (by decide) (t := (.array .double)) (t' := .int) (by decide) (by decide)))
  have F24 := G7_2.other W15 (Or.inr (slot_ne (Or.inr (Own.wd hw 19 rfl)) (Or.inl (Own.wd hw 40 rfl)) (by decide) (t := (.array .long)) (t' := .int) (by decide) (by decide)))
  have F25 := G7_3.other W15 (Or.inr (slot_ne (Or.inl (Own.wd hw 26 rfl)) (Or.inl (Own.wd hw 40 rfl)) (by decide) (t := .int) (t' := .int) (by decide) (by decide)))
  have F26 := G7_4.other W15 (Or.inr (slot_ne (Or.inl (Own.wd hw 36 rfl)) (Or.inl (Own.wd hw 40 rfl)) (by decide) (t := .long) (t' := .int) (by decide) (by decide)))
  have F27 := G7_5.other W15 (Or.inr (slot_ne (Or.inl (Own.wd hw 38 rfl)) (Or.inl (Own.wd hw 40 rfl)) (by decide) (t := .int) (t' := .int) (by decide) (by decide)))
  have F28 := G7_7.other W15 (Ne.symm nq4)
  have F29 := G7_8.other W15 (Ne.symm nq1)
  have F30 := G7_9.other W15 (Ne.symm nq2)
  have F31 : Fld Z h15 a "com/example/allocus/allocus/method/Population" "best" "I" (.int (1 : Int32)) := Fld.same W15 G7_6
  have Z32 : n0 ≤ h15.size := by rw [W15.size]; exact Z14
  clear F10 F11 F12 F13 F8 F9 G7_0 G7_1 G7_2 G7_3 G7_4 G7_5 G7_6 G7_7 G7_8 G7_9 X7
  refine Own.aloadN X15 d6_71 rfl rfl ?_
  refine Own.iconst X15 (v := 0) d6_72 rfl ?_
  refine Own.putF_ X15 d6_73 (host := "") (Or.inl (Own.wd hw 37 rfl)) Via.refl F27 F16 (Or.inl (Own.wd hw 38 rfl)) (Own.wd hw 2 rfl) (ty := .int) (by decide) rfl rfl fq0 fun T33 h33 X33 W33 => ?_
  have F34 := F16.wr W33
  have F35 := F21.wr W33 (Or.inl (List.mem_of_getElem? (i := 0) rfl))
  have F36 := F22.other W33 (Or.inr (slot_ne (Or.inr (Own.wd hw 13 rfl)) (Or.inl (Own.wd hw 38 rfl)) (by decide) (t := (.array (.array .int))) (t' := .int) (by decide) (by decide)))
  have F37 := F23.other W33 (Or.inr (slot_ne (Or.inr (Own.wd hw 16 rfl)) (Or.inl (Own.wd hw 38 rfl)) (by decide) (t := (.array .double)) (t' := .int) (by decide) (by decide)))
  have F38 := F24.other W33 (Or.inr (slot_ne (Or.inr (Own.wd hw 19 rfl)) (Or.inl (Own.wd hw 38 rfl)) (by decide) (t := (.array .long)) (t' := .int) (by decide) (by decide)))
  have F39 := F25.other W33 (Or.inr (slot_ne (Or.inl (Own.wd hw 26 rfl)) (Or.inl (Own.wd hw 38 rfl)) (by decide) (t := .int) (t' := .int) (by decide) (by decide)))
  have F40 := F28.other W33 (Ne.symm nq4)
  have F41 := F29.other W33 (Ne.symm nq1)
  have F42 := F30.other W33 (Ne.symm nq2)
  have F43 := F31.other W33 (Or.inr (slot_ne (Or.inl (Own.wd hw 40 rfl)) (Or.inl (Own.wd hw 38 rfl)) (by decide) (t := .int) (t' := .int) (by decide) (by decide)))
  have F44 : Fld Z h33 a "com/example/allocus/allocus/method/Population" "worst" "I" (.int (0 : Int32)) := Fld.same W33 F27
  have Z45 : n0 ≤ h33.size := by rw [W33.size]; exact Z32
  clear F16 F21 F22 F23 F24 F25 F27 F28 F29 F30 F31 X15
  refine Own.iconst X33 (v := 1) d6_76 rfl ?_
  refine Own.istore X33 d6_77 (l' := #[.val (.ref a), .val (.ref si), .val (.double dv), .second, .val (.int (1 : Int32)), .val (.int (1 : Int32)), .val (.int (1 : Int32))]) rfl ?_
  refine Own.iload X33 d6_79 rfl ?_
  refine Own.aloadN X33 d6_81 rfl rfl ?_
  refine Own.getF_ X33 d6_82 (host := "") (Or.inl (Own.wd hw 25 rfl)) Via.refl F39 fun T46 X46 => ?_
  clear X33
  refine Own.icmp_ X46 (pc' := 160) d6_85 (by decide) (fun q => absurd (show (3 : Int) ≤ (1 : Int) from q) (show ¬ ((3 : Int) ≤ (1 : Int)) from by decide)) (fun _ => ?_)
  refine Own.aloadN X46 d6_88 rfl rfl ?_
  refine Own.getF_ X46 d6_89 (host := "") (Or.inl (Own.wd hw 15 rfl)) Via.refl F37 fun T47 X47 => ?_
  clear X46
  refine Own.iload X47 d6_92 rfl ?_
  refine Own.daload_ X47 d6_94 F41 (by decide) rfl ?_
  refine Own.aloadN X47 d6_95 rfl rfl ?_
  refine Own.getF_ X47 d6_96 (host := "") (Or.inl (Own.wd hw 15 rfl)) Via.refl F37 fun T48 X48 => ?_
  clear X47
  refine Own.aloadN X48 d6_99 rfl rfl ?_
  refine Own.getF_ X48 d6_100 (host := "") (Or.inl (Own.wd hw 37 rfl)) Via.refl F44 fun T49 X49 => ?_
  clear X48
  refine Own.daload_ X49 d6_103 F41 (by decide) rfl ?_
  suffices J104_82 : ∀ (T82 : State) (h82 : Heap), ∀ (z154_94 : Int32), z154_94 = (if Own.dz b0 < Own.dz dv then (1 : Int32) else (if Own.dz dv = Own.dz b0 then (if m0.toInt ≤ eJ.toInt then (0 : Int32) else (1 : Int32)) else (0 : Int32))) → Own.St p l e ({ frames := 3, cells := 0, slots := 0, locals := 48 } : Room) s m #[.ref a, .ref si, .double dv] below meth c Z prog_48_method_6_code "com/example/allocus/allocus/method/Population" "offer" 7 (some .boolean) n0 T82 h82 0 0 → n0 ≤ h82.size → Exa Z h82 a "com/example/allocus/allocus/method/Population" → Keep h0 h82 [a, x1, oa, na] → Fld Z h82 a "com/example/allocus/allocus/method/Population" "plans" "[[I" (.ref pl) → Fld Z h82 a "com/example/allocus/allocus/method/Population" "objectives" "[D" (.ref oa) → Fld Z h82 a "com/example/allocus/allocus/method/Population" "entered" "[J" (.ref na) → Fld Z h82 a "com/example/allocus/allocus/method/Population" "count" "I" (.int (3 : Int32)) → Arv Z h82 x1 c_pl .int (1 : Int32) [.int y0] (.int (0 : Int32)) → Arv Z h82 oa k_oa .double (3 : Int32) [.double b0, .double dv, .double b2] (.double 0) → Arv Z h82 na k_na .long (3 : Int32) [.long m0, .long eJ, .long m2] (.long (0 : Int64)) → Fld Z h82 a "com/example/allocus/allocus/method/Population" "best" "I" (.int (1 : Int32)) → Fld Z h82 a "com/example/allocus/allocus/method/Population" "worst" "I" (.int z154_94) → Own.Go p e below s n0 (fun v h => v = some (.int (1 : Int32)) ∧ Keep h0 h [a, x1, oa, na] ∧ Fld Z h a "com/example/allocus/allocus/method/Population" "plans" "[[I" (.ref pl) ∧ Fld Z h a "com/example/allocus/allocus/method/Population" "best" "I" (.int (1 : Int32)) ∧ Arv Z h x1 c_pl .int (1 : Int32) [.int y0] (.int (0 : Int32))) 0 0 (T82.setTop (mkF m 154 #[.val (.ref a), .val (.ref si), .val (.double dv), .second, .val (.int (1 : Int32)), .val (.int (1 : Int32)), .val (.int (1 : Int32))] [])) by
    refine Own.dcmpF X49 (pc' := 148) d6_104 d6_105 (by decide) n_dv n_b0 (fun (h104 : Own.dz b0 < Own.dz dv) => ?_) (fun (h104 : ¬ (Own.dz b0 < Own.dz dv)) => ?_)
    · refine Own.aloadN X49 d6_148 rfl rfl ?_
      refine Own.iload X49 d6_149 rfl ?_
      refine Own.putF_ X49 d6_151 (host := "") (Or.inl (Own.wd hw 37 rfl)) Via.refl F44 F34 (Or.inl (Own.wd hw 38 rfl)) (Own.wd hw 2 rfl) (ty := .int) (by decide) rfl rfl fq0 fun T50 h50 X50 W50 => ?_
      have F51 := F34.wr W50
      have F52 := F35.wr W50 (Or.inl (List.mem_of_getElem? (i := 0) rfl))
      have F53 := F36.other W50 (Or.inr (slot_ne (Or.inr (Own.wd hw 13 rfl)) (Or.inl (Own.wd hw 38 rfl)) (by decide) (t := (.array (.array .int))) (t' := .int) (by decide) (by decide)))
      have F54 := F37.other W50 (Or.inr (slot_ne (Or.inr (Own.wd hw 16 rfl)) (Or.inl (Own.wd hw 38 rfl)) (by decide) (t := (.array .double)) (t' := .int) (by decide) (by decide)))
      have F55 := F38.other W50 (Or.inr (slot_ne (Or.inr (Own.wd hw 19 rfl)) (Or.inl (Own.wd hw 38 rfl)) (by decide) (t := (.array .long)) (t' := .int) (by decide) (by decide)))
      have F56 := F39.other W50 (Or.inr (slot_ne (Or.inl (Own.wd hw 26 rfl)) (Or.inl (Own.wd hw 38 rfl)) (by decide) (t := .int) (t' := .int) (by decide) (by decide)))
      have F57 := F40.other W50 (Ne.symm nq4)
      have F58 := F41.other W50 (Ne.symm nq1)
      have F59 := F42.other W50 (Ne.symm nq2)
      have F60 := F43.other W50 (Or.inr (slot_ne (Or.inl (Own.wd hw 40 rfl)) (Or.inl (Own.wd hw 38 rfl)) (by decide) (t := .int) (t' := .int) (by decide) (by decide)))
      have F61 : Fld Z h50 a "com/example/allocus/allocus/method/Population" "worst" "I" (.int (1 : Int32)) := Fld.same W50 F44
      have Z62 : n0 ≤ h50.size := by rw [W50.size]; exact Z45
      exact J104_82 _ _ _ (if_pos h104).symm (X50.more (by decide) (by decide)) Z62 F51 F52 F53 F54 F55 F56 F57 F58 F59 F60 F61
    · refine Own.aloadN X49 d6_108 rfl rfl ?_
      refine Own.getF_ X49 d6_109 (host := "") (Or.inl (Own.wd hw 15 rfl)) Via.refl F37 fun T63 X63 => ?_
      clear X49
      refine Own.iload X63 d6_112 rfl ?_
      refine Own.daload_ X63 d6_114 F41 (by decide) rfl ?_
      refine Own.aloadN X63 d6_115 rfl rfl ?_
      refine Own.getF_ X63 d6_116 (host := "") (Or.inl (Own.wd hw 15 rfl)) Via.refl F37 fun T64 X64 => ?_
      clear X63
      refine Own.aloadN X64 d6_119 rfl rfl ?_
      refine Own.getF_ X64 d6_120 (host := "") (Or.inl (Own.wd hw 37 rfl)) Via.refl F44 fun T65 X65 => ?_
      clear X64
      refine Own.daload_ X65 d6_123 F41 (by decide) rfl ?_
      refine Own.dcmpF X65 (pc' := 154) d6_124 d6_125 (by decide) n_dv n_b0 (fun (h124 : ¬ (Own.dz dv = Own.dz b0)) => ?_) (fun h124' => ?_)
      · exact J104_82 _ _ _ ((if_neg h104).trans (if_neg h124)).symm (X65.more (by decide) (by decide)) Z45 F34 F35 F36 F37 F38 F39 F40 F41 F42 F43 F44
      · have h124 : Own.dz dv = Own.dz b0 := Classical.not_not.mp h124'
        refine Own.aloadN X65 d6_128 rfl rfl ?_
        refine Own.getF_ X65 d6_129 (host := "") (Or.inl (Own.wd hw 18 rfl)) Via.refl F38 fun T66 X66 => ?_
        clear X65
        refine Own.iload X66 d6_132 rfl ?_
        refine Own.laload_ X66 d6_134 F42 (by decide) rfl ?_
        refine Own.aloadN X66 d6_135 rfl rfl ?_
        refine Own.getF_ X66 d6_136 (host := "") (Or.inl (Own.wd hw 18 rfl)) Via.refl F38 fun T67 X67 => ?_
        clear X66
        refine Own.aloadN X67 d6_139 rfl rfl ?_
        refine Own.getF_ X67 d6_140 (host := "") (Or.inl (Own.wd hw 37 rfl)) Via.refl F44 fun T68 X68 => ?_
        clear X67
        refine Own.laload_ X68 d6_143 F42 (by decide) rfl ?_
        refine Own.lcmpF X68 (pc' := 154) d6_144 d6_145 (by decide) (fun (h144 : m0.toInt ≤ eJ.toInt) => ?_) (fun (h144 : ¬ (m0.toInt ≤ eJ.toInt)) => ?_)
        · exact J104_82 _ _ _ (((if_neg h104).trans (if_pos h124)).trans (if_pos h144)).symm (X68.more (by decide) (by decide)) Z45 F34 F35 F36 F37 F38 F39 F40 F41 F42 F43 F44
        · refine Own.aloadN X68 d6_148 rfl rfl ?_
          refine Own.iload X68 d6_149 rfl ?_
          refine Own.putF_ X68 d6_151 (host := "") (Or.inl (Own.wd hw 37 rfl)) Via.refl F44 F34 (Or.inl (Own.wd hw 38 rfl)) (Own.wd hw 2 rfl) (ty := .int) (by decide) rfl rfl fq0 fun T69 h69 X69 W69 => ?_
          have F70 := F34.wr W69
          have F71 := F35.wr W69 (Or.inl (List.mem_of_getElem? (i := 0) rfl))
          have F72 := F36.other W69 (Or.inr (slot_ne (Or.inr (Own.wd hw 13 rfl)) (Or.inl (Own.wd hw 38 rfl)) (by decide) (t := (.array (.array .int))) (t' := .int) (by decide) (by decide)))
          have F73 := F37.other W69 (Or.inr (slot_ne (Or.inr (Own.wd hw 16 rfl)) (Or.inl (Own.wd hw 38 rfl)) (by decide) (t := (.array .double)) (t' := .int) (by decide) (by decide)))
          have F74 := F38.other W69 (Or.inr (slot_ne (Or.inr (Own.wd hw 19 rfl)) (Or.inl (Own.wd hw 38 rfl)) (by decide) (t := (.array .long)) (t' := .int) (by decide) (by decide)))
          have F75 := F39.other W69 (Or.inr (slot_ne (Or.inl (Own.wd hw 26 rfl)) (Or.inl (Own.wd hw 38 rfl)) (by decide) (t := .int) (t' := .int) (by decide) (by decide)))
          have F76 := F40.other W69 (Ne.symm nq4)
          have F77 := F41.other W69 (Ne.symm nq1)
          have F78 := F42.other W69 (Ne.symm nq2)
          have F79 := F43.other W69 (Or.inr (slot_ne (Or.inl (Own.wd hw 40 rfl)) (Or.inl (Own.wd hw 38 rfl)) (by decide) (t := .int) (t' := .int) (by decide) (by decide)))
          have F80 : Fld Z h69 a "com/example/allocus/allocus/method/Population" "worst" "I" (.int (1 : Int32)) := Fld.same W69 F44
          have Z81 : n0 ≤ h69.size := by rw [W69.size]; exact Z45
          exact J104_82 _ _ _ (((if_neg h104).trans (if_pos h124)).trans (if_neg h144)).symm (X69.more (by decide) (by decide)) Z81 F70 F71 F72 F73 F74 F75 F76 F77 F78 F79 F80
  intro T82 h82 z154_94 e_z154_94 X82 Z82 F83 F84 F85 F86 F87 F88 F89 F90 F91 F92 F93
  obtain ⟨bz_z154_94, mz_z154_94, hj_z154_94, hvb_z154_94, hvm_z154_94, n_bz_z154_94⟩ : ∃ (bb : UInt64) (mm : Int64), (¬ z154_94 < 0 ∧ z154_94 < (3 : Int32)) ∧ ([.double b0, .double dv, .double b2] : List Value).getD z154_94.toNatClampNeg (.double 0) = .double bb ∧ ([.long m0, .long eJ, .long m2] : List Value).getD z154_94.toNatClampNeg (.long (0 : Int64)) = .long mm ∧ NoNaN64 bb := by
    have hz : z154_94 = 0 ∨ z154_94 = 1 := own_01 e_z154_94
    rcases hz with hz | hz <;> rw [hz]
    · exact ⟨b0, m0, by decide, rfl, rfl, n_b0⟩
    · exact ⟨dv, eJ, by decide, rfl, rfl, n_dv⟩
  clear X49
  refine Own.iinc X82 d6_154 rfl (l' := #[.val (.ref a), .val (.ref si), .val (.double dv), .second, .val (.int (1 : Int32)), .val (.int (1 : Int32)), .val (.int (2 : Int32))]) rfl ?_
  refine Own.goto_ X82 (pc' := 79) d6_157 (by decide) ?_
  refine Own.iload X82 d6_79 rfl ?_
  refine Own.aloadN X82 d6_81 rfl rfl ?_
  refine Own.getF_ X82 d6_82 (host := "") (Or.inl (Own.wd hw 25 rfl)) Via.refl F88 fun T95 X95 => ?_
  clear X82
  refine Own.icmp_ X95 (pc' := 160) d6_85 (by decide) (fun q => absurd (show (3 : Int) ≤ (2 : Int) from q) (show ¬ ((3 : Int) ≤ (2 : Int)) from by decide)) (fun _ => ?_)
  refine Own.aloadN X95 d6_88 rfl rfl ?_
  refine Own.getF_ X95 d6_89 (host := "") (Or.inl (Own.wd hw 15 rfl)) Via.refl F86 fun T96 X96 => ?_
  clear X95
  refine Own.iload X96 d6_92 rfl ?_
  refine Own.daload_ X96 d6_94 F90 (by decide) rfl ?_
  refine Own.aloadN X96 d6_95 rfl rfl ?_
  refine Own.getF_ X96 d6_96 (host := "") (Or.inl (Own.wd hw 15 rfl)) Via.refl F86 fun T97 X97 => ?_
  clear X96
  refine Own.aloadN X97 d6_99 rfl rfl ?_
  refine Own.getF_ X97 d6_100 (host := "") (Or.inl (Own.wd hw 37 rfl)) Via.refl F93 fun T98 X98 => ?_
  clear X97
  refine Own.daload_ X98 d6_103 F90 hj_z154_94 hvb_z154_94 ?_
  suffices J104_131 : ∀ (T131 : State) (h131 : Heap), ∀ (z154_143 : Int32), z154_143 = (if Own.dz bz_z154_94 < Own.dz b2 then (2 : Int32) else (if Own.dz b2 = Own.dz bz_z154_94 then (if mz_z154_94.toInt ≤ m2.toInt then z154_94 else (2 : Int32)) else z154_94)) → Own.St p l e ({ frames := 3, cells := 0, slots := 0, locals := 48 } : Room) s m #[.ref a, .ref si, .double dv] below meth c Z prog_48_method_6_code "com/example/allocus/allocus/method/Population" "offer" 7 (some .boolean) n0 T131 h131 0 0 → n0 ≤ h131.size → Exa Z h131 a "com/example/allocus/allocus/method/Population" → Keep h0 h131 [a, x1, oa, na] → Fld Z h131 a "com/example/allocus/allocus/method/Population" "plans" "[[I" (.ref pl) → Fld Z h131 a "com/example/allocus/allocus/method/Population" "objectives" "[D" (.ref oa) → Fld Z h131 a "com/example/allocus/allocus/method/Population" "entered" "[J" (.ref na) → Fld Z h131 a "com/example/allocus/allocus/method/Population" "count" "I" (.int (3 : Int32)) → Arv Z h131 x1 c_pl .int (1 : Int32) [.int y0] (.int (0 : Int32)) → Arv Z h131 oa k_oa .double (3 : Int32) [.double b0, .double dv, .double b2] (.double 0) → Arv Z h131 na k_na .long (3 : Int32) [.long m0, .long eJ, .long m2] (.long (0 : Int64)) → Fld Z h131 a "com/example/allocus/allocus/method/Population" "best" "I" (.int (1 : Int32)) → Fld Z h131 a "com/example/allocus/allocus/method/Population" "worst" "I" (.int z154_143) → Own.Go p e below s n0 (fun v h => v = some (.int (1 : Int32)) ∧ Keep h0 h [a, x1, oa, na] ∧ Fld Z h a "com/example/allocus/allocus/method/Population" "plans" "[[I" (.ref pl) ∧ Fld Z h a "com/example/allocus/allocus/method/Population" "best" "I" (.int (1 : Int32)) ∧ Arv Z h x1 c_pl .int (1 : Int32) [.int y0] (.int (0 : Int32))) 0 0 (T131.setTop (mkF m 154 #[.val (.ref a), .val (.ref si), .val (.double dv), .second, .val (.int (1 : Int32)), .val (.int (1 : Int32)), .val (.int (2 : Int32))] [])) by
    refine Own.dcmpF X98 (pc' := 148) d6_104 d6_105 (by decide) n_b2 n_bz_z154_94 (fun (h104 : Own.dz bz_z154_94 < Own.dz b2) => ?_) (fun (h104 : ¬ (Own.dz bz_z154_94 < Own.dz b2)) => ?_)
    · refine Own.aloadN X98 d6_148 rfl rfl ?_
      refine Own.iload X98 d6_149 rfl ?_
      refine Own.putF_ X98 d6_151 (host := "") (Or.inl (Own.wd hw 37 rfl)) Via.refl F93 F83 (Or.inl (Own.wd hw 38 rfl)) (Own.wd hw 2 rfl) (ty := .int) (by decide) rfl rfl fq0 fun T99 h99 X99 W99 => ?_
      have F100 := F83.wr W99
      have F101 := F84.wr W99 (Or.inl (List.mem_of_getElem? (i := 0) rfl))
      have F102 := F85.other W99 (Or.inr (slot_ne (Or.inr (Own.wd hw 13 rfl)) (Or.inl (Own.wd hw 38 rfl)) (by decide) (t := (.array (.array .int))) (t' := .int) (by decide) (by decide)))
      have F103 := F86.other W99 (Or.inr (slot_ne (Or.inr (Own.wd hw 16 rfl)) (Or.inl (Own.wd hw 38 rfl)) (by decide) (t := (.array .double)) (t' := .int) (by decide) (by decide)))
      have F104 := F87.other W99 (Or.inr (slot_ne (Or.inr (Own.wd hw 19 rfl)) (Or.inl (Own.wd hw 38 rfl)) (by decide) (t := (.array .long)) (t' := .int) (by decide) (by decide)))
      have F105 := F88.other W99 (Or.inr (slot_ne (Or.inl (Own.wd hw 26 rfl)) (Or.inl (Own.wd hw 38 rfl)) (by decide) (t := .int) (t' := .int) (by decide) (by decide)))
      have F106 := F89.other W99 (Ne.symm nq4)
      have F107 := F90.other W99 (Ne.symm nq1)
      have F108 := F91.other W99 (Ne.symm nq2)
      have F109 := F92.other W99 (Or.inr (slot_ne (Or.inl (Own.wd hw 40 rfl)) (Or.inl (Own.wd hw 38 rfl)) (by decide) (t := .int) (t' := .int) (by decide) (by decide)))
      have F110 : Fld Z h99 a "com/example/allocus/allocus/method/Population" "worst" "I" (.int (2 : Int32)) := Fld.same W99 F93
      have Z111 : n0 ≤ h99.size := by rw [W99.size]; exact Z82
      exact J104_131 _ _ _ (if_pos h104).symm (X99.more (by decide) (by decide)) Z111 F100 F101 F102 F103 F104 F105 F106 F107 F108 F109 F110
    · refine Own.aloadN X98 d6_108 rfl rfl ?_
      refine Own.getF_ X98 d6_109 (host := "") (Or.inl (Own.wd hw 15 rfl)) Via.refl F86 fun T112 X112 => ?_
      clear X98
      refine Own.iload X112 d6_112 rfl ?_
      refine Own.daload_ X112 d6_114 F90 (by decide) rfl ?_
      refine Own.aloadN X112 d6_115 rfl rfl ?_
      refine Own.getF_ X112 d6_116 (host := "") (Or.inl (Own.wd hw 15 rfl)) Via.refl F86 fun T113 X113 => ?_
      clear X112
      refine Own.aloadN X113 d6_119 rfl rfl ?_
      refine Own.getF_ X113 d6_120 (host := "") (Or.inl (Own.wd hw 37 rfl)) Via.refl F93 fun T114 X114 => ?_
      clear X113
      refine Own.daload_ X114 d6_123 F90 hj_z154_94 hvb_z154_94 ?_
      refine Own.dcmpF X114 (pc' := 154) d6_124 d6_125 (by decide) n_b2 n_bz_z154_94 (fun (h124 : ¬ (Own.dz b2 = Own.dz bz_z154_94)) => ?_) (fun h124' => ?_)
      · exact J104_131 _ _ _ ((if_neg h104).trans (if_neg h124)).symm (X114.more (by decide) (by decide)) Z82 F83 F84 F85 F86 F87 F88 F89 F90 F91 F92 F93
      · have h124 : Own.dz b2 = Own.dz bz_z154_94 := Classical.not_not.mp h124'
        refine Own.aloadN X114 d6_128 rfl rfl ?_
        refine Own.getF_ X114 d6_129 (host := "") (Or.inl (Own.wd hw 18 rfl)) Via.refl F87 fun T115 X115 => ?_
        clear X114
        refine Own.iload X115 d6_132 rfl ?_
        refine Own.laload_ X115 d6_134 F91 (by decide) rfl ?_
        refine Own.aloadN X115 d6_135 rfl rfl ?_
        refine Own.getF_ X115 d6_136 (host := "") (Or.inl (Own.wd hw 18 rfl)) Via.refl F87 fun T116 X116 => ?_
        clear X115
        refine Own.aloadN X116 d6_139 rfl rfl ?_
        refine Own.getF_ X116 d6_140 (host := "") (Or.inl (Own.wd hw 37 rfl)) Via.refl F93 fun T117 X117 => ?_
        clear X116
        refine Own.laload_ X117 d6_143 F91 hj_z154_94 hvm_z154_94 ?_
        refine Own.lcmpF X117 (pc' := 154) d6_144 d6_145 (by decide) (fun (h144 : mz_z154_94.toInt ≤ m2.toInt) => ?_) (fun (h144 : ¬ (mz_z154_94.toInt ≤ m2.toInt)) => ?_)
        · exact J104_131 _ _ _ (((if_neg h104).trans (if_pos h124)).trans (if_pos h144)).symm (X117.more (by decide) (by decide)) Z82 F83 F84 F85 F86 F87 F88 F89 F90 F91 F92 F93
        · refine Own.aloadN X117 d6_148 rfl rfl ?_
          refine Own.iload X117 d6_149 rfl ?_
          refine Own.putF_ X117 d6_151 (host := "") (Or.inl (Own.wd hw 37 rfl)) Via.refl F93 F83 (Or.inl (Own.wd hw 38 rfl)) (Own.wd hw 2 rfl) (ty := .int) (by decide) rfl rfl fq0 fun T118 h118 X118 W118 => ?_
          have F119 := F83.wr W118
          have F120 := F84.wr W118 (Or.inl (List.mem_of_getElem? (i := 0) rfl))
          have F121 := F85.other W118 (Or.inr (slot_ne (Or.inr (Own.wd hw 13 rfl)) (Or.inl (Own.wd hw 38 rfl)) (by decide) (t := (.array (.array .int))) (t' := .int) (by decide) (by decide)))
          have F122 := F86.other W118 (Or.inr (slot_ne (Or.inr (Own.wd hw 16 rfl)) (Or.inl (Own.wd hw 38 rfl)) (by decide) (t := (.array .double)) (t' := .int) (by decide) (by decide)))
          have F123 := F87.other W118 (Or.inr (slot_ne (Or.inr (Own.wd hw 19 rfl)) (Or.inl (Own.wd hw 38 rfl)) (by decide) (t := (.array .long)) (t' := .int) (by decide) (by decide)))
          have F124 := F88.other W118 (Or.inr (slot_ne (Or.inl (Own.wd hw 26 rfl)) (Or.inl (Own.wd hw 38 rfl)) (by decide) (t := .int) (t' := .int) (by decide) (by decide)))
          have F125 := F89.other W118 (Ne.symm nq4)
          have F126 := F90.other W118 (Ne.symm nq1)
          have F127 := F91.other W118 (Ne.symm nq2)
          have F128 := F92.other W118 (Or.inr (slot_ne (Or.inl (Own.wd hw 40 rfl)) (Or.inl (Own.wd hw 38 rfl)) (by decide) (t := .int) (t' := .int) (by decide) (by decide)))
          have F129 : Fld Z h118 a "com/example/allocus/allocus/method/Population" "worst" "I" (.int (2 : Int32)) := Fld.same W118 F93
          have Z130 : n0 ≤ h118.size := by rw [W118.size]; exact Z82
          exact J104_131 _ _ _ (((if_neg h104).trans (if_pos h124)).trans (if_neg h144)).symm (X118.more (by decide) (by decide)) Z130 F119 F120 F121 F122 F123 F124 F125 F126 F127 F128 F129
  intro T131 h131 z154_143 e_z154_143 X131 Z131 F132 F133 F134 F135 F136 F137 F138 F139 F140 F141 F142
  skip
  clear X98
  refine Own.iinc X131 d6_154 rfl (l' := #[.val (.ref a), .val (.ref si), .val (.double dv), .second, .val (.int (1 : Int32)), .val (.int (1 : Int32)), .val (.int (3 : Int32))]) rfl ?_
  refine Own.goto_ X131 (pc' := 79) d6_157 (by decide) ?_
  refine Own.iload X131 d6_79 rfl ?_
  refine Own.aloadN X131 d6_81 rfl rfl ?_
  refine Own.getF_ X131 d6_82 (host := "") (Or.inl (Own.wd hw 25 rfl)) Via.refl F137 fun T144 X144 => ?_
  clear X131
  refine Own.icmp_ X144 (pc' := 160) d6_85 (by decide) (fun _ => ?_) (fun q => absurd (show (3 : Int) ≤ (3 : Int) from by decide) q)
  refine Own.iload X144 d6_160 rfl ?_
  exact Own.retB X144 d6_162 (by decide) ⟨rfl, F133, F134, F141, F138⟩ (by decide) (by decide)
theorem ef_6_1A (m : MethodId) (x0 : Addr) (x1 : Addr) (x2 : UInt64) : entryFrame m #[.ref x0, .ref x1, .double x2] 7 = mkF m 0 #[.val (.ref x0), .val (.ref x1), .val (.double x2), .second, .unset, .unset, .unset] [] := by first | (simp [entryFrame, mkF, argsToLocals, Value.category, maxLocals]; done) | rfl
set_option maxRecDepth 65536 in
set_option maxHeartbeats 40000000 in
theorem rm6_1A (l : Launch) (Z : State) (a0 : Array Value) (hw : ∀ d ∈ tables_1, d.before a0 Z = true) (a : Addr) (si : Addr) (dv : UInt64) (pl : Addr) (oa : Addr) (na : Addr) (x0 : Addr) (x1 : Addr) (x2 : Addr) (k_pl : ClassId) (c_pl : ClassId) (k_oa : ClassId) (k_na : ClassId) (b0 : UInt64) (b1 : UInt64) (b2 : UInt64) (m0 : Int64) (m1 : Int64) (m2 : Int64) (eJ : Int64) (k_si : ClassId) (y0 : Int32) (be : Int32) (u00 : Int32) (u10 : Int32) (u20 : Int32) (h0 : Heap) (n0 : Nat) (Z0 : n0 ≤ h0.size) (fc0 : Exa Z h0 a "com/example/allocus/allocus/method/Population") (fc1 : Fld Z h0 a "com/example/allocus/allocus/method/Population" "plans" "[[I" (.ref pl)) (fc2 : Fld Z h0 a "com/example/allocus/allocus/method/Population" "objectives" "[D" (.ref oa)) (fc3 : Fld Z h0 a "com/example/allocus/allocus/method/Population" "entered" "[J" (.ref na)) (fc4 : Fld Z h0 a "com/example/allocus/allocus/method/Population" "count" "I" (.int (3 : Int32))) (fc5 : Fld Z h0 a "com/example/allocus/allocus/method/Population" "entries" "J" (.long eJ)) (fc6 : Fld Z h0 a "com/example/allocus/allocus/method/Population" "worst" "I" (.int (1 : Int32))) (fc7 : Fld Z h0 a "com/example/allocus/allocus/method/Population" "best" "I" (.int be)) (fc8 : Arv Z h0 pl k_pl (.array .int) (3 : Int32) [.ref x0, .ref x1, .ref x2] (.null)) (fc9 : Arv Z h0 x0 c_pl .int (1 : Int32) [.int u00] (.int (0 : Int32))) (fc10 : Arv Z h0 x1 c_pl .int (1 : Int32) [.int u10] (.int (0 : Int32))) (fc11 : Arv Z h0 x2 c_pl .int (1 : Int32) [.int u20] (.int (0 : Int32))) (fc12 : Arv Z h0 oa k_oa .double (3 : Int32) [.double b0, .double b1, .double b2] (.double 0)) (fc13 : Arv Z h0 na k_na .long (3 : Int32) [.long m0, .long m1, .long m2] (.long (0 : Int64))) (fc14 : Arv Z h0 si k_si .int (1 : Int32) [.int y0] (.int (0 : Int32))) (nq0 : a ≠ pl) (nq1 : a ≠ oa) (nq2 : a ≠ na) (nq3 : a ≠ x0) (nq4 : a ≠ x1) (nq5 : a ≠ x2) (nq6 : pl ≠ oa) (nq7 : pl ≠ na) (nq8 : pl ≠ x0) (nq9 : pl ≠ x1) (nq10 : pl ≠ x2) (nq11 : oa ≠ na) (nq12 : oa ≠ x0) (nq13 : oa ≠ x1) (nq14 : oa ≠ x2) (nq15 : na ≠ x0) (nq16 : na ≠ x1) (nq17 : na ≠ x2) (nq18 : x0 ≠ x1) (nq19 : x0 ≠ x2) (nq20 : x1 ≠ x2) (nq21 : si ≠ a) (nq22 : si ≠ pl) (nq23 : si ≠ oa) (nq24 : si ≠ na) (nq25 : si ≠ x0) (nq26 : si ≠ x1) (nq27 : si ≠ x2) (fq0 : n0 ≤ a) (fq1 : n0 ≤ x0) (fq2 : n0 ≤ x1) (fq3 : n0 ≤ x2) (fq4 : n0 ≤ oa) (fq5 : n0 ≤ na) (n_dv : NoNaN64 dv) (n_b0 : NoNaN64 b0) (n_b1 : NoNaN64 b1) (n_b2 : NoNaN64 b2) (cw : Own.dz dv < Own.dz b1) (bx : UInt64) (hj : ¬ be < 0 ∧ be < (3 : Int32)) (hv : ([.double b0, .double b1, .double b2] : List Value).getD be.toNatClampNeg (.double 0) = .double bx) (n_bx : NoNaN64 bx) (cx : Own.dz bx ≤ Own.dz dv) (qm0 : ¬ (u00.toInt = y0.toInt)) (qm1 : ¬ (u10.toInt = y0.toInt)) (qm2 : ¬ (u20.toInt = y0.toInt)) :
    Own.Con l Z mn_11 [] prog_48_method_6_code 7 (some .boolean) ({ frames := 3, cells := 0, slots := 0, locals := 48 } : Room) #[.ref a, .ref si, .double dv] h0 n0 (fun v h => v = some (.int (0 : Int32)) ∧ Keep h0 h [a, x1, oa, na] ∧ Fld Z h a "com/example/allocus/allocus/method/Population" "plans" "[[I" (.ref pl) ∧ Fld Z h a "com/example/allocus/allocus/method/Population" "best" "I" (.int be) ∧ Arv Z h x1 c_pl .int (1 : Int32) [.int y0] (.int (0 : Int32))) := by
  refine Own.enter (own := "com/example/allocus/allocus/method/Population") (nm := "offer") (plainFor_of_name pn_com_example_allocus_allocus_method_Population) rfl rfl (fun m => ef_6_1A m a si dv) fun p e s m below meth c T X => ?_
  refine Own.dloadN X d6_0 rfl ?_
  refine Own.aloadN X d6_1 rfl rfl ?_
  refine Own.getF_ X d6_2 (host := "") (Or.inl (Own.wd hw 15 rfl)) Via.refl fc2 fun T1 X1 => ?_
  clear X
  refine Own.aloadN X1 d6_5 rfl rfl ?_
  refine Own.getF_ X1 d6_6 (host := "") (Or.inl (Own.wd hw 37 rfl)) Via.refl fc6 fun T2 X2 => ?_
  clear X1
  refine Own.daload_ X2 d6_9 fc12 (by decide) rfl ?_
  refine Own.dcmpF X2 (pc' := 23) d6_10 d6_11 (by decide) n_dv n_b1 (fun q => absurd (show Own.dz b1 ≤ Own.dz dv from q) (show ¬ (Own.dz b1 ≤ Own.dz dv) from by omega)) (fun _ => ?_)
  refine Own.aloadN X2 d6_14 rfl rfl ?_
  refine Own.aloadN X2 d6_15 rfl rfl ?_
  refine Own.dloadN X2 d6_16 rfl ?_
  refine Own.callP_ (y := mn_9) (D := "com/example/allocus/allocus/method/Population") (z' := mn_3) (z := mn_3) (a := a) X2 d6_17 (Own.wd hw 60 rfl) (Own.wd hw 61 rfl) (Own.wd hw 23 rfl) rfl (Own.wd hw 62 rfl) (Own.wd hw 3 rfl) (Own.wd hw 63 rfl) (by decide) fc0 (rm7 l Z a0 hw a si dv pl x0 x1 x2 k_pl c_pl oa k_oa k_si y0 b0 b1 b2 u00 u10 u20 h0 n0 Z0 fc1 fc2 fc4 fc8 fc12 fc14 fc9 fc10 fc11 (Ne.symm nq25) (Ne.symm nq26) (Ne.symm nq27) n_dv n_b0 n_b1 n_b2 qm0 qm1 qm2) (lenOf pd_10 rfl) rfl (argsL := [.ref si, .double dv]) (rest := []) rfl (W := 0) (Nat.le_of_eq rfl) (by decide) (by decide) (by decide) (by decide) fun T3 h3 v3 X3 q3 => ?_
  obtain ⟨rfl, rfl⟩ := q3
  show Own.Go p e below s n0 _ _ _ (T3.setTop (mkF m 20 _ [.int (0 : Int32)]))
  clear X2
  refine Own.iff_ X3 (pc' := 25) d6_20 (by decide) (fun _ => ?_) (fun q => absurd (show (0 : Int) = (0 : Int) from by decide) q)
  refine Own.dloadN X3 d6_25 rfl ?_
  refine Own.aloadN X3 d6_26 rfl rfl ?_
  refine Own.getF_ X3 d6_27 (host := "") (Or.inl (Own.wd hw 15 rfl)) Via.refl fc2 fun T4 X4 => ?_
  clear X3
  refine Own.aloadN X4 d6_30 rfl rfl ?_
  refine Own.getF_ X4 d6_31 (host := "") (Or.inl (Own.wd hw 39 rfl)) Via.refl fc7 fun T5 X5 => ?_
  clear X4
  refine Own.daload_ X5 d6_34 fc12 hj hv ?_
  refine Own.dcmpF X5 (pc' := 43) d6_35 d6_36 (by decide) n_dv n_bx (fun _ => ?_) (fun q => absurd (show Own.dz bx ≤ Own.dz dv from by omega) q)
  refine Own.iconst X5 (v := 0) d6_43 rfl ?_
  refine Own.istore X5 d6_44 (l' := #[.val (.ref a), .val (.ref si), .val (.double dv), .second, .val (.int (0 : Int32)), .unset, .unset]) rfl ?_
  refine Own.aloadN X5 d6_46 rfl rfl ?_
  refine Own.getF_ X5 d6_47 (host := "") (Or.inl (Own.wd hw 37 rfl)) Via.refl fc6 fun T6 X6 => ?_
  clear X5
  refine Own.istore X6 d6_50 (l' := #[.val (.ref a), .val (.ref si), .val (.double dv), .second, .val (.int (0 : Int32)), .val (.int (1 : Int32)), .unset]) rfl ?_
  refine Own.aloadN X6 d6_52 rfl rfl ?_
  refine Own.iload X6 d6_53 rfl ?_
  refine Own.aloadN X6 d6_55 rfl rfl ?_
  refine Own.dloadN X6 d6_56 rfl ?_
  refine Own.callP_ (y := mn_1) (D := "com/example/allocus/allocus/method/Population") (z' := mn_3) (z := mn_3) (a := a) X6 d6_57 (Own.wd hw 27 rfl) (Own.wd hw 28 rfl) (Own.wd hw 23 rfl) rfl (Own.wd hw 29 rfl) (Own.wd hw 3 rfl) (Own.wd hw 30 rfl) (by decide) fc0 (rm4_1 l Z a0 hw a si dv pl oa na x0 x1 x2 k_pl c_pl k_oa k_na b0 b1 b2 m0 m1 m2 eJ k_si y0 u10 (3 : Int32) (1 : Int32) be h0 n0 Z0 fc0 fc1 fc2 fc3 fc4 fc5 fc6 fc7 fc8 fc10 fc12 fc13 fc14 nq0 nq1 nq2 nq3 nq4 nq5 nq6 nq7 nq8 nq9 nq10 nq11 nq12 nq13 nq14 nq15 nq16 nq17 nq18 nq19 nq20 nq21 nq22 nq23 nq24 nq25 nq26 nq27 fq0 fq1 fq2 fq3 fq4 fq5 ) (lenOf pd_2 rfl) rfl (argsL := [.int (1 : Int32), .ref si, .double dv]) (rest := []) rfl (W := 0) (Nat.le_of_eq rfl) (by decide) (by decide) (by decide) (by decide) fun T7 h7 v7 X7 q7 => ?_
  obtain ⟨rfl, K7, G7_0, G7_1, G7_2, G7_3, G7_4, G7_5, G7_6, G7_7, G7_8, G7_9⟩ := q7
  have F8 := fc0.keep K7
  have F9 := fc8.keep K7 (ninS (Ne.symm nq0) (ninS nq9 (ninS nq6 (ninS nq7 nin0))))
  have F10 := fc9.keep K7 (ninS (Ne.symm nq3) (ninS nq18 (ninS (Ne.symm nq12) (ninS (Ne.symm nq15) nin0))))
  have F11 := fc11.keep K7 (ninS (Ne.symm nq5) (ninS (Ne.symm nq20) (ninS (Ne.symm nq14) (ninS (Ne.symm nq17) nin0))))
  have F12 := fc14.keep K7 (ninS nq21 (ninS nq26 (ninS nq23 (ninS nq24 nin0))))
  have F13 := (Keep.refl h0 [a, x1, oa, na]).trans K7 (allS (Or.inl (List.mem_of_getElem? (i := 0) rfl)) (allS (Or.inl (List.mem_of_getElem? (i := 1) rfl)) (allS (Or.inl (List.mem_of_getElem? (i := 2) rfl)) (allS (Or.inl (List.mem_of_getElem? (i := 3) rfl)) all0))))
  have Z14 : n0 ≤ h7.size := Nat.le_trans Z0 K7.1
  show Own.Go p e below s n0 _ _ _ (T7.setTop (mkF m 60 _ []))
  clear X6 fc0 fc1 fc10 fc11 fc12 fc13 fc14 fc2 fc3 fc4 fc5 fc6 fc7 fc8 fc9
  refine Own.iload X7 d6_60 rfl ?_
  refine Own.iff_ X7 (pc' := 71) d6_62 (by decide) (fun _ => ?_) (fun q => absurd (show (0 : Int) = (0 : Int) from by decide) q)
  refine Own.aloadN X7 d6_71 rfl rfl ?_
  refine Own.iconst X7 (v := 0) d6_72 rfl ?_
  refine Own.putF_ X7 d6_73 (host := "") (Or.inl (Own.wd hw 37 rfl)) Via.refl G7_5 F8 (Or.inl (Own.wd hw 38 rfl)) (Own.wd hw 2 rfl) (ty := .int) (by decide) rfl rfl fq0 fun T15 h15 X15 W15 => ?_
  have F16 := F8.wr W15
  have F17 := F13.wr W15 (Or.inl (List.mem_of_getElem? (i := 0) rfl))
  have F18 := G7_0.other W15 (Or.inr (slot_ne (Or.inr (Own.wd hw 13 rfl)) (Or.inl (Own.wd hw 38 rfl)) (by decide) (t := (.array (.array .int))) (t' := .int) (by decide) (by decide)))
  have F19 := G7_1.other W15 (Or.inr (slot_ne (Or.inr (Own.wd hw 16 rfl)) (Or.inl (Own.wd hw 38 rfl)) (by decide) (t := (.array .double)) (t' := .int) (by decide) (by decide)))
  have F20 := G7_2.other W15 (Or.inr (slot_ne (Or.inr (Own.wd hw 19 rfl)) (Or.inl (Own.wd hw 38 rfl)) (by decide) (t := (.array .long)) (t' := .int) (by decide) (by decide)))
  have F21 := G7_3.other W15 (Or.inr (slot_ne (Or.inl (Own.wd hw 26 rfl)) (Or.inl (Own.wd hw 38 rfl)) (by decide) (t := .int) (t' := .int) (by decide) (by decide)))
  have F22 := G7_6.other W15 (Or.inr (slot_ne (Or.inl (Own.wd hw 40 rfl)) (Or.inl (Own.wd hw 38 rfl)) (by decide) (t := .int) (t' := .int) (by decide) (by decide)))
  have F23 := G7_7.other W15 (Ne.symm nq4)
  have F24 := G7_8.other W15 (Ne.symm nq1)
  have F25 := G7_9.other W15 (Ne.symm nq2)
  have F26 : Fld Z h15 a "com/example/allocus/allocus/method/Population" "worst" "I" (.int (0 : Int32)) := Fld.same W15 G7_5
  have Z27 : n0 ≤ h15.size := by rw [W15.size]; exact Z14
  clear F13 F8 G7_0 G7_1 G7_2 G7_3 G7_5 G7_6 G7_7 G7_8 G7_9 X7
  refine Own.iconst X15 (v := 1) d6_76 rfl ?_
  refine Own.istore X15 d6_77 (l' := #[.val (.ref a), .val (.ref si), .val (.double dv), .second, .val (.int (0 : Int32)), .val (.int (1 : Int32)), .val (.int (1 : Int32))]) rfl ?_
  refine Own.iload X15 d6_79 rfl ?_
  refine Own.aloadN X15 d6_81 rfl rfl ?_
  refine Own.getF_ X15 d6_82 (host := "") (Or.inl (Own.wd hw 25 rfl)) Via.refl F21 fun T28 X28 => ?_
  clear X15
  refine Own.icmp_ X28 (pc' := 160) d6_85 (by decide) (fun q => absurd (show (3 : Int) ≤ (1 : Int) from q) (show ¬ ((3 : Int) ≤ (1 : Int)) from by decide)) (fun _ => ?_)
  refine Own.aloadN X28 d6_88 rfl rfl ?_
  refine Own.getF_ X28 d6_89 (host := "") (Or.inl (Own.wd hw 15 rfl)) Via.refl F19 fun T29 X29 => ?_
  clear X28
  refine Own.iload X29 d6_92 rfl ?_
  refine Own.daload_ X29 d6_94 F24 (by decide) rfl ?_
  refine Own.aloadN X29 d6_95 rfl rfl ?_
  refine Own.getF_ X29 d6_96 (host := "") (Or.inl (Own.wd hw 15 rfl)) Via.refl F19 fun T30 X30 => ?_
  clear X29
  refine Own.aloadN X30 d6_99 rfl rfl ?_
  refine Own.getF_ X30 d6_100 (host := "") (Or.inl (Own.wd hw 37 rfl)) Via.refl F26 fun T31 X31 => ?_
  clear X30
  refine Own.daload_ X31 d6_103 F24 (by decide) rfl ?_
  suffices J104_64 : ∀ (T64 : State) (h64 : Heap), ∀ (z154_76 : Int32), z154_76 = (if Own.dz b0 < Own.dz dv then (1 : Int32) else (if Own.dz dv = Own.dz b0 then (if m0.toInt ≤ eJ.toInt then (0 : Int32) else (1 : Int32)) else (0 : Int32))) → Own.St p l e ({ frames := 3, cells := 0, slots := 0, locals := 48 } : Room) s m #[.ref a, .ref si, .double dv] below meth c Z prog_48_method_6_code "com/example/allocus/allocus/method/Population" "offer" 7 (some .boolean) n0 T64 h64 0 0 → n0 ≤ h64.size → Exa Z h64 a "com/example/allocus/allocus/method/Population" → Keep h0 h64 [a, x1, oa, na] → Fld Z h64 a "com/example/allocus/allocus/method/Population" "plans" "[[I" (.ref pl) → Fld Z h64 a "com/example/allocus/allocus/method/Population" "objectives" "[D" (.ref oa) → Fld Z h64 a "com/example/allocus/allocus/method/Population" "entered" "[J" (.ref na) → Fld Z h64 a "com/example/allocus/allocus/method/Population" "count" "I" (.int (3 : Int32)) → Fld Z h64 a "com/example/allocus/allocus/method/Population" "best" "I" (.int be) → Arv Z h64 x1 c_pl .int (1 : Int32) [.int y0] (.int (0 : Int32)) → Arv Z h64 oa k_oa .double (3 : Int32) [.double b0, .double dv, .double b2] (.double 0) → Arv Z h64 na k_na .long (3 : Int32) [.long m0, .long eJ, .long m2] (.long (0 : Int64)) → Fld Z h64 a "com/example/allocus/allocus/method/Population" "worst" "I" (.int z154_76) → Own.Go p e below s n0 (fun v h => v = some (.int (0 : Int32)) ∧ Keep h0 h [a, x1, oa, na] ∧ Fld Z h a "com/example/allocus/allocus/method/Population" "plans" "[[I" (.ref pl) ∧ Fld Z h a "com/example/allocus/allocus/method/Population" "best" "I" (.int be) ∧ Arv Z h x1 c_pl .int (1 : Int32) [.int y0] (.int (0 : Int32))) 0 0 (T64.setTop (mkF m 154 #[.val (.ref a), .val (.ref si), .val (.double dv), .second, .val (.int (0 : Int32)), .val (.int (1 : Int32)), .val (.int (1 : Int32))] [])) by
    refine Own.dcmpF X31 (pc' := 148) d6_104 d6_105 (by decide) n_dv n_b0 (fun (h104 : Own.dz b0 < Own.dz dv) => ?_) (fun (h104 : ¬ (Own.dz b0 < Own.dz dv)) => ?_)
    · refine Own.aloadN X31 d6_148 rfl rfl ?_
      refine Own.iload X31 d6_149 rfl ?_
      refine Own.putF_ X31 d6_151 (host := "") (Or.inl (Own.wd hw 37 rfl)) Via.refl F26 F16 (Or.inl (Own.wd hw 38 rfl)) (Own.wd hw 2 rfl) (ty := .int) (by decide) rfl rfl fq0 fun T32 h32 X32 W32 => ?_
      have F33 := F16.wr W32
      have F34 := F17.wr W32 (Or.inl (List.mem_of_getElem? (i := 0) rfl))
      have F35 := F18.other W32 (Or.inr (slot_ne (Or.inr (Own.wd hw 13 rfl)) (Or.inl (Own.wd hw 38 rfl)) (by decide) (t := (.array (.array .int))) (t' := .int) (by decide) (by decide)))
      have F36 := F19.other W32 (Or.inr (slot_ne (Or.inr (Own.wd hw 16 rfl)) (Or.inl (Own.wd hw 38 rfl)) (by decide) (t := (.array .double)) (t' := .int) (by decide) (by decide)))
      have F37 := F20.other W32 (Or.inr (slot_ne (Or.inr (Own.wd hw 19 rfl)) (Or.inl (Own.wd hw 38 rfl)) (by decide) (t := (.array .long)) (t' := .int) (by decide) (by decide)))
      have F38 := F21.other W32 (Or.inr (slot_ne (Or.inl (Own.wd hw 26 rfl)) (Or.inl (Own.wd hw 38 rfl)) (by decide) (t := .int) (t' := .int) (by decide) (by decide)))
      have F39 := F22.other W32 (Or.inr (slot_ne (Or.inl (Own.wd hw 40 rfl)) (Or.inl (Own.wd hw 38 rfl)) (by decide) (t := .int) (t' := .int) (by decide) (by decide)))
      have F40 := F23.other W32 (Ne.symm nq4)
      have F41 := F24.other W32 (Ne.symm nq1)
      have F42 := F25.other W32 (Ne.symm nq2)
      have F43 : Fld Z h32 a "com/example/allocus/allocus/method/Population" "worst" "I" (.int (1 : Int32)) := Fld.same W32 F26
      have Z44 : n0 ≤ h32.size := by rw [W32.size]; exact Z27
      exact J104_64 _ _ _ (if_pos h104).symm (X32.more (by decide) (by decide)) Z44 F33 F34 F35 F36 F37 F38 F39 F40 F41 F42 F43
    · refine Own.aloadN X31 d6_108 rfl rfl ?_
      refine Own.getF_ X31 d6_109 (host := "") (Or.inl (Own.wd hw 15 rfl)) Via.refl F19 fun T45 X45 => ?_
      clear X31
      refine Own.iload X45 d6_112 rfl ?_
      refine Own.daload_ X45 d6_114 F24 (by decide) rfl ?_
      refine Own.aloadN X45 d6_115 rfl rfl ?_
      refine Own.getF_ X45 d6_116 (host := "") (Or.inl (Own.wd hw 15 rfl)) Via.refl F19 fun T46 X46 => ?_
      clear X45
      refine Own.aloadN X46 d6_119 rfl rfl ?_
      refine Own.getF_ X46 d6_120 (host := "") (Or.inl (Own.wd hw 37 rfl)) Via.refl F26 fun T47 X47 => ?_
      clear X46
      refine Own.daload_ X47 d6_123 F24 (by decide) rfl ?_
      refine Own.dcmpF X47 (pc' := 154) d6_124 d6_125 (by decide) n_dv n_b0 (fun (h124 : ¬ (Own.dz dv = Own.dz b0)) => ?_) (fun h124' => ?_)
      · exact J104_64 _ _ _ ((if_neg h104).trans (if_neg h124)).symm (X47.more (by decide) (by decide)) Z27 F16 F17 F18 F19 F20 F21 F22 F23 F24 F25 F26
      · have h124 : Own.dz dv = Own.dz b0 := Classical.not_not.mp h124'
        refine Own.aloadN X47 d6_128 rfl rfl ?_
        refine Own.getF_ X47 d6_129 (host := "") (Or.inl (Own.wd hw 18 rfl)) Via.refl F20 fun T48 X48 => ?_
        clear X47
        refine Own.iload X48 d6_132 rfl ?_
        refine Own.laload_ X48 d6_134 F25 (by decide) rfl ?_
        refine Own.aloadN X48 d6_135 rfl rfl ?_
        refine Own.getF_ X48 d6_136 (host := "") (Or.inl (Own.wd hw 18 rfl)) Via.refl F20 fun T49 X49 => ?_
        clear X48
        refine Own.aloadN X49 d6_139 rfl rfl ?_
        refine Own.getF_ X49 d6_140 (host := "") (Or.inl (Own.wd hw 37 rfl)) Via.refl F26 fun T50 X50 => ?_
        clear X49
        refine Own.laload_ X50 d6_143 F25 (by decide) rfl ?_
        refine Own.lcmpF X50 (pc' := 154) d6_144 d6_145 (by decide) (fun (h144 : m0.toInt ≤ eJ.toInt) => ?_) (fun (h144 : ¬ (m0.toInt ≤ eJ.toInt)) => ?_)
        · exact J104_64 _ _ _ (((if_neg h104).trans (if_pos h124)).trans (if_pos h144)).symm (X50.more (by decide) (by decide)) Z27 F16 F17 F18 F19 F20 F21 F22 F23 F24 F25 F26
        · refine Own.aloadN X50 d6_148 rfl rfl ?_
          refine Own.iload X50 d6_149 rfl ?_
          refine Own.putF_ X50 d6_151 (host := "") (Or.inl (Own.wd hw 37 rfl)) Via.refl F26 F16 (Or.inl (Own.wd hw 38 rfl)) (Own.wd hw 2 rfl) (ty := .int) (by decide) rfl rfl fq0 fun T51 h51 X51 W51 => ?_
          have F52 := F16.wr W51
          have F53 := F17.wr W51 (Or.inl (List.mem_of_getElem? (i := 0) rfl))
          have F54 := F18.other W51 (Or.inr (slot_ne (Or.inr (Own.wd hw 13 rfl)) (Or.inl (Own.wd hw 38 rfl)) (by decide) (t := (.array (.array .int))) (t' := .int) (by decide) (by decide)))
          have F55 := F19.other W51 (Or.inr (slot_ne (Or.inr (Own.wd hw 16 rfl)) (Or.inl (Own.wd hw 38 rfl)) (by decide) (t := (.array .double)) (t' := .int) (by decide) (by decide)))
          have F56 := F20.other W51 (Or.inr (slot_ne (Or.inr (Own.wd hw 19 rfl)) (Or.inl (Own.wd hw 38 rfl)) (by decide) (t := (.array .long)) (t' := .int) (by decide) (by decide)))
          have F57 := F21.other W51 (Or.inr (slot_ne (Or.inl (Own.wd hw 26 rfl)) (Or.inl (Own.wd hw 38 rfl)) (by decide) (t := .int) (t' := .int) (by decide) (by decide)))
          have F58 := F22.other W51 (Or.inr (slot_ne (Or.inl (Own.wd hw 40 rfl)) (Or.inl (Own.wd hw 38 rfl)) (by decide) (t := .int) (t' := .int) (by decide) (by decide)))
          have F59 := F23.other W51 (Ne.symm nq4)
          have F60 := F24.other W51 (Ne.symm nq1)
          have F61 := F25.other W51 (Ne.symm nq2)
          have F62 : Fld Z h51 a "com/example/allocus/allocus/method/Population" "worst" "I" (.int (1 : Int32)) := Fld.same W51 F26
          have Z63 : n0 ≤ h51.size := by rw [W51.size]; exact Z27
          exact J104_64 _ _ _ (((if_neg h104).trans (if_pos h124)).trans (if_neg h144)).symm (X51.more (by decide) (by decide)) Z63 F52 F53 F54 F55 F56 F57 F58 F59 F60 F61 F62
  intro T64 h64 z154_76 e_z154_76 X64 Z64 F65 F66 F67 F68 F69 F70 F71 F72 F73 F74 F75
  obtain ⟨bz_z154_76, mz_z154_76, hj_z154_76, hvb_z154_76, hvm_z154_76, n_bz_z154_76⟩ : ∃ (bb : UInt64) (mm : Int64), (¬ z154_76 < 0 ∧ z154_76 < (3 : Int32)) ∧ ([.double b0, .double dv, .double b2] : List Value).getD z154_76.toNatClampNeg (.double 0) = .double bb ∧ ([.long m0, .long eJ, .long m2] : List Value).getD z154_76.toNatClampNeg (.long (0 : Int64)) = .long mm ∧ NoNaN64 bb := by
    have hz : z154_76 = 0 ∨ z154_76 = 1 := own_01 e_z154_76
    rcases hz with hz | hz <;> rw [hz]
    · exact ⟨b0, m0, by decide, rfl, rfl, n_b0⟩
    · exact ⟨dv, eJ, by decide, rfl, rfl, n_dv⟩
  clear X31
  refine Own.iinc X64 d6_154 rfl (l' := #[.val (.ref a), .val (.ref si), .val (.double dv), .second, .val (.int (0 : Int32)), .val (.int (1 : Int32)), .val (.int (2 : Int32))]) rfl ?_
  refine Own.goto_ X64 (pc' := 79) d6_157 (by decide) ?_
  refine Own.iload X64 d6_79 rfl ?_
  refine Own.aloadN X64 d6_81 rfl rfl ?_
  refine Own.getF_ X64 d6_82 (host := "") (Or.inl (Own.wd hw 25 rfl)) Via.refl F70 fun T77 X77 => ?_
  clear X64
  refine Own.icmp_ X77 (pc' := 160) d6_85 (by decide) (fun q => absurd (show (3 : Int) ≤ (2 : Int) from q) (show ¬ ((3 : Int) ≤ (2 : Int)) from by decide)) (fun _ => ?_)
  refine Own.aloadN X77 d6_88 rfl rfl ?_
  refine Own.getF_ X77 d6_89 (host := "") (Or.inl (Own.wd hw 15 rfl)) Via.refl F68 fun T78 X78 => ?_
  clear X77
  refine Own.iload X78 d6_92 rfl ?_
  refine Own.daload_ X78 d6_94 F73 (by decide) rfl ?_
  refine Own.aloadN X78 d6_95 rfl rfl ?_
  refine Own.getF_ X78 d6_96 (host := "") (Or.inl (Own.wd hw 15 rfl)) Via.refl F68 fun T79 X79 => ?_
  clear X78
  refine Own.aloadN X79 d6_99 rfl rfl ?_
  refine Own.getF_ X79 d6_100 (host := "") (Or.inl (Own.wd hw 37 rfl)) Via.refl F75 fun T80 X80 => ?_
  clear X79
  refine Own.daload_ X80 d6_103 F73 hj_z154_76 hvb_z154_76 ?_
  suffices J104_113 : ∀ (T113 : State) (h113 : Heap), ∀ (z154_125 : Int32), z154_125 = (if Own.dz bz_z154_76 < Own.dz b2 then (2 : Int32) else (if Own.dz b2 = Own.dz bz_z154_76 then (if mz_z154_76.toInt ≤ m2.toInt then z154_76 else (2 : Int32)) else z154_76)) → Own.St p l e ({ frames := 3, cells := 0, slots := 0, locals := 48 } : Room) s m #[.ref a, .ref si, .double dv] below meth c Z prog_48_method_6_code "com/example/allocus/allocus/method/Population" "offer" 7 (some .boolean) n0 T113 h113 0 0 → n0 ≤ h113.size → Exa Z h113 a "com/example/allocus/allocus/method/Population" → Keep h0 h113 [a, x1, oa, na] → Fld Z h113 a "com/example/allocus/allocus/method/Population" "plans" "[[I" (.ref pl) → Fld Z h113 a "com/example/allocus/allocus/method/Population" "objectives" "[D" (.ref oa) → Fld Z h113 a "com/example/allocus/allocus/method/Population" "entered" "[J" (.ref na) → Fld Z h113 a "com/example/allocus/allocus/method/Population" "count" "I" (.int (3 : Int32)) → Fld Z h113 a "com/example/allocus/allocus/method/Population" "best" "I" (.int be) → Arv Z h113 x1 c_pl .int (1 : Int32) [.int y0] (.int (0 : Int32)) → Arv Z h113 oa k_oa .double (3 : Int32) [.double b0, .double dv, .double b2] (.double 0) → Arv Z h113 na k_na .long (3 : Int32) [.long m0, .long eJ, .long m2] (.long (0 : Int64)) → Fld Z h113 a "com/example/allocus/allocus/method/Population" "worst" "I" (.int z154_125) → Own.Go p e below s n0 (fun v h => v = some (.int (0 : Int32)) ∧ Keep h0 h [a, x1, oa, na] ∧ Fld Z h a "com/example/allocus/allocus/method/Population" "plans" "[[I" (.ref pl) ∧ Fld Z h a "com/example/allocus/allocus/method/Population" "best" "I" (.int be) ∧ Arv Z h x1 c_pl .int (1 : Int32) [.int y0] (.int (0 : Int32))) 0 0 (T113.setTop (mkF m 154 #[.val (.ref a), .val (.ref si), .val (.double dv), .second, .val (.int (0 : Int32)), .val (.int (1 : Int32)), .val (.int (2 : Int32))] [])) by
    refine Own.dcmpF X80 (pc' := 148) d6_104 d6_105 (by decide) n_b2 n_bz_z154_76 (fun (h104 : Own.dz bz_z154_76 < Own.dz b2) => ?_) (fun (h104 : ¬ (Own.dz bz_z154_76 < Own.dz b2)) => ?_)
    · refine Own.aloadN X80 d6_148 rfl rfl ?_
      refine Own.iload X80 d6_149 rfl ?_
      refine Own.putF_ X80 d6_151 (host := "") (Or.inl (Own.wd hw 37 rfl)) Via.refl F75 F65 (Or.inl (Own.wd hw 38 rfl)) (Own.wd hw 2 rfl) (ty := .int) (by decide) rfl rfl fq0 fun T81 h81 X81 W81 => ?_
      have F82 := F65.wr W81
      have F83 := F66.wr W81 (Or.inl (List.mem_of_getElem? (i := 0) rfl))
      have F84 := F67.other W81 (Or.inr (slot_ne (Or.inr (Own.wd hw 13 rfl)) (Or.inl (Own.wd hw 38 rfl)) (by decide) (t := (.array (.array .int))) (t' := .int) (by decide) (by decide)))
      have F85 := F68.other W81 (Or.inr (slot_ne (Or.inr (Own.wd hw 16 rfl)) (Or.inl (Own.wd hw 38 rfl)) (by decide) (t := (.array .double)) (t' := .int) (by decide) (by decide)))
      have F86 := F69.other W81 (Or.inr (slot_ne (Or.inr (Own.wd hw 19 rfl)) (Or.inl (Own.wd hw 38 rfl)) (by decide) (t := (.array .long)) (t' := .int) (by decide) (by decide)))
      have F87 := F70.other W81 (Or.inr (slot_ne (Or.inl (Own.wd hw 26 rfl)) (Or.inl (Own.wd hw 38 rfl)) (by decide) (t := .int) (t' := .int) (by decide) (by decide)))
      have F88 := F71.other W81 (Or.inr (slot_ne (Or.inl (Own.wd hw 40 rfl)) (Or.inl (Own.wd hw 38 rfl)) (by decide) (t := .int) (t' := .int) (by decide) (by decide)))
      have F89 := F72.other W81 (Ne.symm nq4)
      have F90 := F73.other W81 (Ne.symm nq1)
      have F91 := F74.other W81 (Ne.symm nq2)
      have F92 : Fld Z h81 a "com/example/allocus/allocus/method/Population" "worst" "I" (.int (2 : Int32)) := Fld.same W81 F75
      have Z93 : n0 ≤ h81.size := by rw [W81.size]; exact Z64
      exact J104_113 _ _ _ (if_pos h104).symm (X81.more (by decide) (by decide)) Z93 F82 F83 F84 F85 F86 F87 F88 F89 F90 F91 F92
    · refine Own.aloadN X80 d6_108 rfl rfl ?_
      refine Own.getF_ X80 d6_109 (host := "") (Or.inl (Own.wd hw 15 rfl)) Via.refl F68 fun T94 X94 => ?_
      clear X80
      refine Own.iload X94 d6_112 rfl ?_
      refine Own.daload_ X94 d6_114 F73 (by decide) rfl ?_
      refine Own.aloadN X94 d6_115 rfl rfl ?_
      refine Own.getF_ X94 d6_116 (host := "") (Or.inl (Own.wd hw 15 rfl)) Via.refl F68 fun T95 X95 => ?_
      clear X94
      refine Own.aloadN X95 d6_119 rfl rfl ?_
      refine Own.getF_ X95 d6_120 (host := "") (Or.inl (Own.wd hw 37 rfl)) Via.refl F75 fun T96 X96 => ?_
      clear X95
      refine Own.daload_ X96 d6_123 F73 hj_z154_76 hvb_z154_76 ?_
      refine Own.dcmpF X96 (pc' := 154) d6_124 d6_125 (by decide) n_b2 n_bz_z154_76 (fun (h124 : ¬ (Own.dz b2 = Own.dz bz_z154_76)) => ?_) (fun h124' => ?_)
      · exact J104_113 _ _ _ ((if_neg h104).trans (if_neg h124)).symm (X96.more (by decide) (by decide)) Z64 F65 F66 F67 F68 F69 F70 F71 F72 F73 F74 F75
      · have h124 : Own.dz b2 = Own.dz bz_z154_76 := Classical.not_not.mp h124'
        refine Own.aloadN X96 d6_128 rfl rfl ?_
        refine Own.getF_ X96 d6_129 (host := "") (Or.inl (Own.wd hw 18 rfl)) Via.refl F69 fun T97 X97 => ?_
        clear X96
        refine Own.iload X97 d6_132 rfl ?_
        refine Own.laload_ X97 d6_134 F74 (by decide) rfl ?_
        refine Own.aloadN X97 d6_135 rfl rfl ?_
        refine Own.getF_ X97 d6_136 (host := "") (Or.inl (Own.wd hw 18 rfl)) Via.refl F69 fun T98 X98 => ?_
        clear X97
        refine Own.aloadN X98 d6_139 rfl rfl ?_
        refine Own.getF_ X98 d6_140 (host := "") (Or.inl (Own.wd hw 37 rfl)) Via.refl F75 fun T99 X99 => ?_
        clear X98
        refine Own.laload_ X99 d6_143 F74 hj_z154_76 hvm_z154_76 ?_
        refine Own.lcmpF X99 (pc' := 154) d6_144 d6_145 (by decide) (fun (h144 : mz_z154_76.toInt ≤ m2.toInt) => ?_) (fun (h144 : ¬ (mz_z154_76.toInt ≤ m2.toInt)) => ?_)
        · exact J104_113 _ _ _ (((if_neg h104).trans (if_pos h124)).trans (if_pos h144)).symm (X99.more (by decide) (by decide)) Z64 F65 F66 F67 F68 F69 F70 F71 F72 F73 F74 F75
        · refine Own.aloadN X99 d6_148 rfl rfl ?_
          refine Own.iload X99 d6_149 rfl ?_
          refine Own.putF_ X99 d6_151 (host := "") (Or.inl (Own.wd hw 37 rfl)) Via.refl F75 F65 (Or.inl (Own.wd hw 38 rfl)) (Own.wd hw 2 rfl) (ty := .int) (by decide) rfl rfl fq0 fun T100 h100 X100 W100 => ?_
          have F101 := F65.wr W100
          have F102 := F66.wr W100 (Or.inl (List.mem_of_getElem? (i := 0) rfl))
          have F103 := F67.other W100 (Or.inr (slot_ne (Or.inr (Own.wd hw 13 rfl)) (Or.inl (Own.wd hw 38 rfl)) (by decide) (t := (.array (.array .int))) (t' := .int) (by decide) (by decide)))
          have F104 := F68.other W100 (Or.inr (slot_ne (Or.inr (Own.wd hw 16 rfl)) (Or.inl (Own.wd hw 38 rfl)) (by decide) (t := (.array .double)) (t' := .int) (by decide) (by decide)))
          have F105 := F69.other W100 (Or.inr (slot_ne (Or.inr (Own.wd hw 19 rfl)) (Or.inl (Own.wd hw 38 rfl)) (by decide) (t := (.array .long)) (t' := .int) (by decide) (by decide)))
          have F106 := F70.other W100 (Or.inr (slot_ne (Or.inl (Own.wd hw 26 rfl)) (Or.inl (Own.wd hw 38 rfl)) (by decide) (t := .int) (t' := .int) (by decide) (by decide)))
          have F107 := F71.other W100 (Or.inr (slot_ne (Or.inl (Own.wd hw 40 rfl)) (Or.inl (Own.wd hw 38 rfl)) (by decide) (t := .int) (t' := .int) (by decide) (by decide)))
          have F108 := F72.other W100 (Ne.symm nq4)
          have F109 := F73.other W100 (Ne.symm nq1)
          have F110 := F74.other W100 (Ne.symm nq2)
          have F111 : Fld Z h100 a "com/example/allocus/allocus/method/Population" "worst" "I" (.int (2 : Int32)) := Fld.same W100 F75
          have Z112 : n0 ≤ h100.size := by rw [W100.size]; exact Z64
          exact J104_113 _ _ _ (((if_neg h104).trans (if_pos h124)).trans (if_neg h144)).symm (X100.more (by decide) (by decide)) Z112 F101 F102 F103 F104 F105 F106 F107 F108 F109 F110 F111
  intro T113 h113 z154_125 e_z154_125 X113 Z113 F114 F115 F116 F117 F118 F119 F120 F121 F122 F123 F124
  skip
  clear X80
  refine Own.iinc X113 d6_154 rfl (l' := #[.val (.ref a), .val (.ref si), .val (.double dv), .second, .val (.int (0 : Int32)), .val (.int (1 : Int32)), .val (.int (3 : Int32))]) rfl ?_
  refine Own.goto_ X113 (pc' := 79) d6_157 (by decide) ?_
  refine Own.iload X113 d6_79 rfl ?_
  refine Own.aloadN X113 d6_81 rfl rfl ?_
  refine Own.getF_ X113 d6_82 (host := "") (Or.inl (Own.wd hw 25 rfl)) Via.refl F119 fun T126 X126 => ?_
  clear X113
  refine Own.icmp_ X126 (pc' := 160) d6_85 (by decide) (fun _ => ?_) (fun q => absurd (show (3 : Int) ≤ (3 : Int) from by decide) q)
  refine Own.iload X126 d6_160 rfl ?_
  exact Own.retB X126 d6_162 (by decide) ⟨rfl, F115, F116, F120, F121⟩ (by decide) (by decide)
theorem ef_6_1R (m : MethodId) (x0 : Addr) (x1 : Addr) (x2 : UInt64) : entryFrame m #[.ref x0, .ref x1, .double x2] 7 = mkF m 0 #[.val (.ref x0), .val (.ref x1), .val (.double x2), .second, .unset, .unset, .unset] [] := by first | (simp [entryFrame, mkF, argsToLocals, Value.category, maxLocals]; done) | rfl
set_option maxRecDepth 65536 in
set_option maxHeartbeats 40000000 in
theorem rm6_1R (l : Launch) (Z : State) (a0 : Array Value) (hw : ∀ d ∈ tables_1, d.before a0 Z = true) (a : Addr) (si : Addr) (dv : UInt64) (oa : Addr) (k_oa : ClassId) (b0 : UInt64) (b1 : UInt64) (b2 : UInt64) (h0 : Heap) (n0 : Nat) (Z0 : n0 ≤ h0.size) (fc0 : Fld Z h0 a "com/example/allocus/allocus/method/Population" "objectives" "[D" (.ref oa)) (fc1 : Fld Z h0 a "com/example/allocus/allocus/method/Population" "worst" "I" (.int (1 : Int32))) (fc2 : Arv Z h0 oa k_oa .double (3 : Int32) [.double b0, .double b1, .double b2] (.double 0)) (n_dv : NoNaN64 dv) (n_b1 : NoNaN64 b1) (cw : Own.dz b1 ≤ Own.dz dv) :
    Own.Con l Z mn_11 [] prog_48_method_6_code 7 (some .boolean) ({ frames := 0, cells := 0, slots := 0, locals := 0 } : Room) #[.ref a, .ref si, .double dv] h0 n0 (fun v h => v = some (.int (0 : Int32)) ∧ h0 = h) := by
  refine Own.enter (own := "com/example/allocus/allocus/method/Population") (nm := "offer") (plainFor_of_name pn_com_example_allocus_allocus_method_Population) rfl rfl (fun m => ef_6_1R m a si dv) fun p e s m below meth c T X => ?_
  refine Own.dloadN X d6_0 rfl ?_
  refine Own.aloadN X d6_1 rfl rfl ?_
  refine Own.getF_ X d6_2 (host := "") (Or.inl (Own.wd hw 15 rfl)) Via.refl fc0 fun T1 X1 => ?_
  clear X
  refine Own.aloadN X1 d6_5 rfl rfl ?_
  refine Own.getF_ X1 d6_6 (host := "") (Or.inl (Own.wd hw 37 rfl)) Via.refl fc1 fun T2 X2 => ?_
  clear X1
  refine Own.daload_ X2 d6_9 fc2 (by decide) rfl ?_
  refine Own.dcmpF X2 (pc' := 23) d6_10 d6_11 (by decide) n_dv n_b1 (fun _ => ?_) (fun q => absurd (show Own.dz b1 ≤ Own.dz dv from by omega) q)
  refine Own.iconst X2 (v := 0) d6_23 rfl ?_
  exact Own.retB X2 d6_24 (by decide) ⟨rfl, rfl⟩ (by decide) (by decide)
theorem ef_6_2N (m : MethodId) (x0 : Addr) (x1 : Addr) (x2 : UInt64) : entryFrame m #[.ref x0, .ref x1, .double x2] 7 = mkF m 0 #[.val (.ref x0), .val (.ref x1), .val (.double x2), .second, .unset, .unset, .unset] [] := by first | (simp [entryFrame, mkF, argsToLocals, Value.category, maxLocals]; done) | rfl
set_option maxRecDepth 65536 in
set_option maxHeartbeats 40000000 in
theorem rm6_2N (l : Launch) (Z : State) (a0 : Array Value) (hw : ∀ d ∈ tables_1, d.before a0 Z = true) (a : Addr) (si : Addr) (dv : UInt64) (pl : Addr) (oa : Addr) (na : Addr) (x0 : Addr) (x1 : Addr) (x2 : Addr) (k_pl : ClassId) (c_pl : ClassId) (k_oa : ClassId) (k_na : ClassId) (b0 : UInt64) (b1 : UInt64) (b2 : UInt64) (m0 : Int64) (m1 : Int64) (m2 : Int64) (eJ : Int64) (k_si : ClassId) (y0 : Int32) (be : Int32) (u00 : Int32) (u10 : Int32) (u20 : Int32) (h0 : Heap) (n0 : Nat) (Z0 : n0 ≤ h0.size) (fc0 : Exa Z h0 a "com/example/allocus/allocus/method/Population") (fc1 : Fld Z h0 a "com/example/allocus/allocus/method/Population" "plans" "[[I" (.ref pl)) (fc2 : Fld Z h0 a "com/example/allocus/allocus/method/Population" "objectives" "[D" (.ref oa)) (fc3 : Fld Z h0 a "com/example/allocus/allocus/method/Population" "entered" "[J" (.ref na)) (fc4 : Fld Z h0 a "com/example/allocus/allocus/method/Population" "count" "I" (.int (3 : Int32))) (fc5 : Fld Z h0 a "com/example/allocus/allocus/method/Population" "entries" "J" (.long eJ)) (fc6 : Fld Z h0 a "com/example/allocus/allocus/method/Population" "worst" "I" (.int (2 : Int32))) (fc7 : Fld Z h0 a "com/example/allocus/allocus/method/Population" "best" "I" (.int be)) (fc8 : Arv Z h0 pl k_pl (.array .int) (3 : Int32) [.ref x0, .ref x1, .ref x2] (.null)) (fc9 : Arv Z h0 x0 c_pl .int (1 : Int32) [.int u00] (.int (0 : Int32))) (fc10 : Arv Z h0 x1 c_pl .int (1 : Int32) [.int u10] (.int (0 : Int32))) (fc11 : Arv Z h0 x2 c_pl .int (1 : Int32) [.int u20] (.int (0 : Int32))) (fc12 : Arv Z h0 oa k_oa .double (3 : Int32) [.double b0, .double b1, .double b2] (.double 0)) (fc13 : Arv Z h0 na k_na .long (3 : Int32) [.long m0, .long m1, .long m2] (.long (0 : Int64))) (fc14 : Arv Z h0 si k_si .int (1 : Int32) [.int y0] (.int (0 : Int32))) (nq0 : a ≠ pl) (nq1 : a ≠ oa) (nq2 : a ≠ na) (nq3 : a ≠ x0) (nq4 : a ≠ x1) (nq5 : a ≠ x2) (nq6 : pl ≠ oa) (nq7 : pl ≠ na) (nq8 : pl ≠ x0) (nq9 : pl ≠ x1) (nq10 : pl ≠ x2) (nq11 : oa ≠ na) (nq12 : oa ≠ x0) (nq13 : oa ≠ x1) (nq14 : oa ≠ x2) (nq15 : na ≠ x0) (nq16 : na ≠ x1) (nq17 : na ≠ x2) (nq18 : x0 ≠ x1) (nq19 : x0 ≠ x2) (nq20 : x1 ≠ x2) (nq21 : si ≠ a) (nq22 : si ≠ pl) (nq23 : si ≠ oa) (nq24 : si ≠ na) (nq25 : si ≠ x0) (nq26 : si ≠ x1) (nq27 : si ≠ x2) (fq0 : n0 ≤ a) (fq1 : n0 ≤ x0) (fq2 : n0 ≤ x1) (fq3 : n0 ≤ x2) (fq4 : n0 ≤ oa) (fq5 : n0 ≤ na) (n_dv : NoNaN64 dv) (n_b0 : NoNaN64 b0) (n_b1 : NoNaN64 b1) (n_b2 : NoNaN64 b2) (cw : Own.dz dv < Own.dz b2) (bx : UInt64) (hj : ¬ be < 0 ∧ be < (3 : Int32)) (hv : ([.double b0, .double b1, .double b2] : List Value).getD be.toNatClampNeg (.double 0) = .double bx) (n_bx : NoNaN64 bx) (cx : Own.dz dv < Own.dz bx) (qm0 : ¬ (u00.toInt = y0.toInt)) (qm1 : ¬ (u10.toInt = y0.toInt)) (qm2 : ¬ (u20.toInt = y0.toInt)) :
    Own.Con l Z mn_11 [] prog_48_method_6_code 7 (some .boolean) ({ frames := 3, cells := 0, slots := 0, locals := 48 } : Room) #[.ref a, .ref si, .double dv] h0 n0 (fun v h => v = some (.int (1 : Int32)) ∧ Keep h0 h [a, x2, oa, na] ∧ Fld Z h a "com/example/allocus/allocus/method/Population" "plans" "[[I" (.ref pl) ∧ Fld Z h a "com/example/allocus/allocus/method/Population" "best" "I" (.int (2 : Int32)) ∧ Arv Z h x2 c_pl .int (1 : Int32) [.int y0] (.int (0 : Int32))) := by
  refine Own.enter (own := "com/example/allocus/allocus/method/Population") (nm := "offer") (plainFor_of_name pn_com_example_allocus_allocus_method_Population) rfl rfl (fun m => ef_6_2N m a si dv) fun p e s m below meth c T X => ?_
  refine Own.dloadN X d6_0 rfl ?_
  refine Own.aloadN X d6_1 rfl rfl ?_
  refine Own.getF_ X d6_2 (host := "") (Or.inl (Own.wd hw 15 rfl)) Via.refl fc2 fun T1 X1 => ?_
  clear X
  refine Own.aloadN X1 d6_5 rfl rfl ?_
  refine Own.getF_ X1 d6_6 (host := "") (Or.inl (Own.wd hw 37 rfl)) Via.refl fc6 fun T2 X2 => ?_
  clear X1
  refine Own.daload_ X2 d6_9 fc12 (by decide) rfl ?_
  refine Own.dcmpF X2 (pc' := 23) d6_10 d6_11 (by decide) n_dv n_b2 (fun q => absurd (show Own.dz b2 ≤ Own.dz dv from q) (show ¬ (Own.dz b2 ≤ Own.dz dv) from by omega)) (fun _ => ?_)
  refine Own.aloadN X2 d6_14 rfl rfl ?_
  refine Own.aloadN X2 d6_15 rfl rfl ?_
  refine Own.dloadN X2 d6_16 rfl ?_
  refine Own.callP_ (y := mn_9) (D := "com/example/allocus/allocus/method/Population") (z' := mn_3) (z := mn_3) (a := a) X2 d6_17 (Own.wd hw 60 rfl) (Own.wd hw 61 rfl) (Own.wd hw 23 rfl) rfl (Own.wd hw 62 rfl) (Own.wd hw 3 rfl) (Own.wd hw 63 rfl) (by decide) fc0 (rm7 l Z a0 hw a si dv pl x0 x1 x2 k_pl c_pl oa k_oa k_si y0 b0 b1 b2 u00 u10 u20 h0 n0 Z0 fc1 fc2 fc4 fc8 fc12 fc14 fc9 fc10 fc11 (Ne.symm nq25) (Ne.symm nq26) (Ne.symm nq27) n_dv n_b0 n_b1 n_b2 qm0 qm1 qm2) (lenOf pd_10 rfl) rfl (argsL := [.ref si, .double dv]) (rest := []) rfl (W := 0) (Nat.le_of_eq rfl) (by decide) (by decide) (by decide) (by decide) fun T3 h3 v3 X3 q3 => ?_
  obtain ⟨rfl, rfl⟩ := q3
  show Own.Go p e below s n0 _ _ _ (T3.setTop (mkF m 20 _ [.int (0 : Int32)]))
  clear X2
  refine Own.iff_ X3 (pc' := 25) d6_20 (by decide) (fun _ => ?_) (fun q => absurd (show (0 : Int) = (0 : Int) from by decide) q)
  refine Own.dloadN X3 d6_25 rfl ?_
  refine Own.aloadN X3 d6_26 rfl rfl ?_
  refine Own.getF_ X3 d6_27 (host := "") (Or.inl (Own.wd hw 15 rfl)) Via.refl fc2 fun T4 X4 => ?_
  clear X3
  refine Own.aloadN X4 d6_30 rfl rfl ?_
  refine Own.getF_ X4 d6_31 (host := "") (Or.inl (Own.wd hw 39 rfl)) Via.refl fc7 fun T5 X5 => ?_
  clear X4
  refine Own.daload_ X5 d6_34 fc12 hj hv ?_
  refine Own.dcmpF X5 (pc' := 43) d6_35 d6_36 (by decide) n_dv n_bx (fun q => absurd (show Own.dz bx ≤ Own.dz dv from q) (show ¬ (Own.dz bx ≤ Own.dz dv) from by omega)) (fun _ => ?_)
  refine Own.iconst X5 (v := 1) d6_39 rfl ?_
  refine Own.goto_ X5 (pc' := 44) d6_40 (by decide) ?_
  refine Own.istore X5 d6_44 (l' := #[.val (.ref a), .val (.ref si), .val (.double dv), .second, .val (.int (1 : Int32)), .unset, .unset]) rfl ?_
  refine Own.aloadN X5 d6_46 rfl rfl ?_
  refine Own.getF_ X5 d6_47 (host := "") (Or.inl (Own.wd hw 37 rfl)) Via.refl fc6 fun T6 X6 => ?_
  clear X5
  refine Own.istore X6 d6_50 (l' := #[.val (.ref a), .val (.ref si), .val (.double dv), .second, .val (.int (1 : Int32)), .val (.int (2 : Int32)), .unset]) rfl ?_
  refine Own.aloadN X6 d6_52 rfl rfl ?_
  refine Own.iload X6 d6_53 rfl ?_
  refine Own.aloadN X6 d6_55 rfl rfl ?_
  refine Own.dloadN X6 d6_56 rfl ?_
  refine Own.callP_ (y := mn_1) (D := "com/example/allocus/allocus/method/Population") (z' := mn_3) (z := mn_3) (a := a) X6 d6_57 (Own.wd hw 27 rfl) (Own.wd hw 28 rfl) (Own.wd hw 23 rfl) rfl (Own.wd hw 29 rfl) (Own.wd hw 3 rfl) (Own.wd hw 30 rfl) (by decide) fc0 (rm4_2 l Z a0 hw a si dv pl oa na x0 x1 x2 k_pl c_pl k_oa k_na b0 b1 b2 m0 m1 m2 eJ k_si y0 u20 (3 : Int32) (2 : Int32) be h0 n0 Z0 fc0 fc1 fc2 fc3 fc4 fc5 fc6 fc7 fc8 fc11 fc12 fc13 fc14 nq0 nq1 nq2 nq3 nq4 nq5 nq6 nq7 nq8 nq9 nq10 nq11 nq12 nq13 nq14 nq15 nq16 nq17 nq18 nq19 nq20 nq21 nq22 nq23 nq24 nq25 nq26 nq27 fq0 fq1 fq2 fq3 fq4 fq5 ) (lenOf pd_2 rfl) rfl (argsL := [.int (2 : Int32), .ref si, .double dv]) (rest := []) rfl (W := 0) (Nat.le_of_eq rfl) (by decide) (by decide) (by decide) (by decide) fun T7 h7 v7 X7 q7 => ?_
  obtain ⟨rfl, K7, G7_0, G7_1, G7_2, G7_3, G7_4, G7_5, G7_6, G7_7, G7_8, G7_9⟩ := q7
  have F8 := fc0.keep K7
  have F9 := fc8.keep K7 (ninS (Ne.symm nq0) (ninS nq10 (ninS nq6 (ninS nq7 nin0))))
  have F10 := fc9.keep K7 (ninS (Ne.symm nq3) (ninS nq19 (ninS (Ne.symm nq12) (ninS (Ne.symm nq15) nin0))))
  have F11 := fc10.keep K7 (ninS (Ne.symm nq4) (ninS nq20 (ninS (Ne.symm nq13) (ninS (Ne.symm nq16) nin0))))
  have F12 := fc14.keep K7 (ninS nq21 (ninS nq27 (ninS nq23 (ninS nq24 nin0))))
  have F13 := (Keep.refl h0 [a, x2, oa, na]).trans K7 (allS (Or.inl (List.mem_of_getElem? (i := 0) rfl)) (allS (Or.inl (List.mem_of_getElem? (i := 1) rfl)) (allS (Or.inl (List.mem_of_getElem? (i := 2) rfl)) (allS (Or.inl (List.mem_of_getElem? (i := 3) rfl)) all0))))
  have Z14 : n0 ≤ h7.size := Nat.le_trans Z0 K7.1
  show Own.Go p e below s n0 _ _ _ (T7.setTop (mkF m 60 _ []))
  clear X6 fc0 fc1 fc10 fc11 fc12 fc13 fc14 fc2 fc3 fc4 fc5 fc6 fc7 fc8 fc9
  refine Own.iload X7 d6_60 rfl ?_
  refine Own.iff_ X7 (pc' := 71) d6_62 (by decide) (fun q => absurd (show (1 : Int) = (0 : Int) from q) (show ¬ ((1 : Int) = (0 : Int)) from by decide)) (fun _ => ?_)
  refine Own.aloadN X7 d6_65 rfl rfl ?_
  refine Own.iload X7 d6_66 rfl ?_
  refine Own.putF_ X7 d6_68 (host := "") (Or.inl (Own.wd hw 39 rfl)) Via.refl G7_6 F8 (Or.inl (Own.wd hw 40 rfl)) (Own.wd hw 2 rfl) (ty := .int) (by decide) rfl rfl fq0 fun T15 h15 X15 W15 => ?_
  have F16 := F8.wr W15
  have F17 := F9.other W15 (Ne.symm nq0)
  have F18 := F10.other W15 (Ne.symm nq3)
  have F19 := F11.other W15 (Ne.symm nq4)
  have F20 := F12.other W15 nq21
  have F21 := F13.wr W15 (Or.inl (List.mem_of_getElem? (i := 0) rfl))
  have F22 := G7_0.other W15 (Or.inr (slot_ne (Or.inr (Own.wd hw 13 rfl)) (Or.inl (Own.wd hw 40 rfl)) (by decide) (t := (.array (.array .int))) (t' := .int) (by decide) (by decide)))
  have F23 := G7_1.other W15 (Or.inr (slot_ne (Or.inr (Own.wd hw 16 rfl)) (Or.inl (Own.wd hw 40 rfl)) (by decide) (t := (.array .double)) (t' := .int) (by decide) (by decide)))
  have F24 := G7_2.other W15 (Or.inr (slot_ne (Or.inr (Own.wd hw 19 rfl)) (Or.inl (Own.wd hw 40 rfl)) (by decide) (t := (.array .long)) (t' := .int) (by decide) (by decide)))
  have F25 := G7_3.other W15 (Or.inr (slot_ne (Or.inl (Own.wd hw 26 rfl)) (Or.inl (Own.wd hw 40 rfl)) (by decide) (t := .int) (t' := .int) (by decide) (by decide)))
  have F26 := G7_4.other W15 (Or.inr (slot_ne (Or.inl (Own.wd hw 36 rfl)) (Or.inl (Own.wd hw 40 rfl)) (by decide) (t := .long) (t' := .int) (by decide) (by decide)))
  have F27 := G7_5.other W15 (Or.inr (slot_ne (Or.inl (Own.wd hw 38 rfl)) (Or.inl (Own.wd hw 40 rfl)) (by decide) (t := .int) (t' := .int) (by decide) (by decide)))
  have F28 := G7_7.other W15 (Ne.symm nq5)
  have F29 := G7_8.other W15 (Ne.symm nq1)
  have F30 := G7_9.other W15 (Ne.symm nq2)
  have F31 : Fld Z h15 a "com/example/allocus/allocus/method/Population" "best" "I" (.int (2 : Int32)) := Fld.same W15 G7_6
  have Z32 : n0 ≤ h15.size := by rw [W15.size]; exact Z14
  clear F10 F11 F12 F13 F8 F9 G7_0 G7_1 G7_2 G7_3 G7_4 G7_5 G7_6 G7_7 G7_8 G7_9 X7
  refine Own.aloadN X15 d6_71 rfl rfl ?_
  refine Own.iconst X15 (v := 0) d6_72 rfl ?_
  refine Own.putF_ X15 d6_73 (host := "") (Or.inl (Own.wd hw 37 rfl)) Via.refl F27 F16 (Or.inl (Own.wd hw 38 rfl)) (Own.wd hw 2 rfl) (ty := .int) (by decide) rfl rfl fq0 fun T33 h33 X33 W33 => ?_
  have F34 := F16.wr W33
  have F35 := F21.wr W33 (Or.inl (List.mem_of_getElem? (i := 0) rfl))
  have F36 := F22.other W33 (Or.inr (slot_ne (Or.inr (Own.wd hw 13 rfl)) (Or.inl (Own.wd hw 38 rfl)) (by decide) (t := (.array (.array .int))) (t' := .int) (by decide) (by decide)))
  have F37 := F23.other W33 (Or.inr (slot_ne (Or.inr (Own.wd hw 16 rfl)) (Or.inl (Own.wd hw 38 rfl)) (by decide) (t := (.array .double)) (t' := .int) (by decide) (by decide)))
  have F38 := F24.other W33 (Or.inr (slot_ne (Or.inr (Own.wd hw 19 rfl)) (Or.inl (Own.wd hw 38 rfl)) (by decide) (t := (.array .long)) (t' := .int) (by decide) (by decide)))
  have F39 := F25.other W33 (Or.inr (slot_ne (Or.inl (Own.wd hw 26 rfl)) (Or.inl (Own.wd hw 38 rfl)) (by decide) (t := .int) (t' := .int) (by decide) (by decide)))
  have F40 := F28.other W33 (Ne.symm nq5)
  have F41 := F29.other W33 (Ne.symm nq1)
  have F42 := F30.other W33 (Ne.symm nq2)
  have F43 := F31.other W33 (Or.inr (slot_ne (Or.inl (Own.wd hw 40 rfl)) (Or.inl (Own.wd hw 38 rfl)) (by decide) (t := .int) (t' := .int) (by decide) (by decide)))
  have F44 : Fld Z h33 a "com/example/allocus/allocus/method/Population" "worst" "I" (.int (0 : Int32)) := Fld.same W33 F27
  have Z45 : n0 ≤ h33.size := by rw [W33.size]; exact Z32
  clear F16 F21 F22 F23 F24 F25 F27 F28 F29 F30 F31 X15
  refine Own.iconst X33 (v := 1) d6_76 rfl ?_
  refine Own.istore X33 d6_77 (l' := #[.val (.ref a), .val (.ref si), .val (.double dv), .second, .val (.int (1 : Int32)), .val (.int (2 : Int32)), .val (.int (1 : Int32))]) rfl ?_
  refine Own.iload X33 d6_79 rfl ?_
  refine Own.aloadN X33 d6_81 rfl rfl ?_
  refine Own.getF_ X33 d6_82 (host := "") (Or.inl (Own.wd hw 25 rfl)) Via.refl F39 fun T46 X46 => ?_
  clear X33
  refine Own.icmp_ X46 (pc' := 160) d6_85 (by decide) (fun q => absurd (show (3 : Int) ≤ (1 : Int) from q) (show ¬ ((3 : Int) ≤ (1 : Int)) from by decide)) (fun _ => ?_)
  refine Own.aloadN X46 d6_88 rfl rfl ?_
  refine Own.getF_ X46 d6_89 (host := "") (Or.inl (Own.wd hw 15 rfl)) Via.refl F37 fun T47 X47 => ?_
  clear X46
  refine Own.iload X47 d6_92 rfl ?_
  refine Own.daload_ X47 d6_94 F41 (by decide) rfl ?_
  refine Own.aloadN X47 d6_95 rfl rfl ?_
  refine Own.getF_ X47 d6_96 (host := "") (Or.inl (Own.wd hw 15 rfl)) Via.refl F37 fun T48 X48 => ?_
  clear X47
  refine Own.aloadN X48 d6_99 rfl rfl ?_
  refine Own.getF_ X48 d6_100 (host := "") (Or.inl (Own.wd hw 37 rfl)) Via.refl F44 fun T49 X49 => ?_
  clear X48
  refine Own.daload_ X49 d6_103 F41 (by decide) rfl ?_
  suffices J104_82 : ∀ (T82 : State) (h82 : Heap), ∀ (z154_94 : Int32), z154_94 = (if Own.dz b0 < Own.dz b1 then (1 : Int32) else (if Own.dz b1 = Own.dz b0 then (if m0.toInt ≤ m1.toInt then (0 : Int32) else (1 : Int32)) else (0 : Int32))) → Own.St p l e ({ frames := 3, cells := 0, slots := 0, locals := 48 } : Room) s m #[.ref a, .ref si, .double dv] below meth c Z prog_48_method_6_code "com/example/allocus/allocus/method/Population" "offer" 7 (some .boolean) n0 T82 h82 0 0 → n0 ≤ h82.size → Exa Z h82 a "com/example/allocus/allocus/method/Population" → Keep h0 h82 [a, x2, oa, na] → Fld Z h82 a "com/example/allocus/allocus/method/Population" "plans" "[[I" (.ref pl) → Fld Z h82 a "com/example/allocus/allocus/method/Population" "objectives" "[D" (.ref oa) → Fld Z h82 a "com/example/allocus/allocus/method/Population" "entered" "[J" (.ref na) → Fld Z h82 a "com/example/allocus/allocus/method/Population" "count" "I" (.int (3 : Int32)) → Arv Z h82 x2 c_pl .int (1 : Int32) [.int y0] (.int (0 : Int32)) → Arv Z h82 oa k_oa .double (3 : Int32) [.double b0, .double b1, .double dv] (.double 0) → Arv Z h82 na k_na .long (3 : Int32) [.long m0, .long m1, .long eJ] (.long (0 : Int64)) → Fld Z h82 a "com/example/allocus/allocus/method/Population" "best" "I" (.int (2 : Int32)) → Fld Z h82 a "com/example/allocus/allocus/method/Population" "worst" "I" (.int z154_94) → Own.Go p e below s n0 (fun v h => v = some (.int (1 : Int32)) ∧ Keep h0 h [a, x2, oa, na] ∧ Fld Z h a "com/example/allocus/allocus/method/Population" "plans" "[[I" (.ref pl) ∧ Fld Z h a "com/example/allocus/allocus/method/Population" "best" "I" (.int (2 : Int32)) ∧ Arv Z h x2 c_pl .int (1 : Int32) [.int y0] (.int (0 : Int32))) 0 0 (T82.setTop (mkF m 154 #[.val (.ref a), .val (.ref si), .val (.double dv), .second, .val (.int (1 : Int32)), .val (.int (2 : Int32)), .val (.int (1 : Int32))] [])) by
    refine Own.dcmpF X49 (pc' := 148) d6_104 d6_105 (by decide) n_b1 n_b0 (fun (h104 : Own.dz b0 < Own.dz b1) => ?_) (fun (h104 : ¬ (Own.dz b0 < Own.dz b1)) => ?_)
    · refine Own.aloadN X49 d6_148 rfl rfl ?_
      refine Own.iload X49 d6_149 rfl ?_
      refine Own.putF_ X49 d6_151 (host := "") (Or.inl (Own.wd hw 37 rfl)) Via.refl F44 F34 (Or.inl (Own.wd hw 38 rfl)) (Own.wd hw 2 rfl) (ty := .int) (by decide) rfl rfl fq0 fun T50 h50 X50 W50 => ?_
      have F51 := F34.wr W50
      have F52 := F35.wr W50 (Or.inl (List.mem_of_getElem? (i := 0) rfl))
      have F53 := F36.other W50 (Or.inr (slot_ne (Or.inr (Own.wd hw 13 rfl)) (Or.inl (Own.wd hw 38 rfl)) (by decide) (t := (.array (.array .int))) (t' := .int) (by decide) (by decide)))
      have F54 := F37.other W50 (Or.inr (slot_ne (Or.inr (Own.wd hw 16 rfl)) (Or.inl (Own.wd hw 38 rfl)) (by decide) (t := (.array .double)) (t' := .int) (by decide) (by decide)))
      have F55 := F38.other W50 (Or.inr (slot_ne (Or.inr (Own.wd hw 19 rfl)) (Or.inl (Own.wd hw 38 rfl)) (by decide) (t := (.array .long)) (t' := .int) (by decide) (by decide)))
      have F56 := F39.other W50 (Or.inr (slot_ne (Or.inl (Own.wd hw 26 rfl)) (Or.inl (Own.wd hw 38 rfl)) (by decide) (t := .int) (t' := .int) (by decide) (by decide)))
      have F57 := F40.other W50 (Ne.symm nq5)
      have F58 := F41.other W50 (Ne.symm nq1)
      have F59 := F42.other W50 (Ne.symm nq2)
      have F60 := F43.other W50 (Or.inr (slot_ne (Or.inl (Own.wd hw 40 rfl)) (Or.inl (Own.wd hw 38 rfl)) (by decide) (t := .int) (t' := .int) (by decide) (by decide)))
      have F61 : Fld Z h50 a "com/example/allocus/allocus/method/Population" "worst" "I" (.int (1 : Int32)) := Fld.same W50 F44
      have Z62 : n0 ≤ h50.size := by rw [W50.size]; exact Z45
      exact J104_82 _ _ _ (if_pos h104).symm (X50.more (by decide) (by decide)) Z62 F51 F52 F53 F54 F55 F56 F57 F58 F59 F60 F61
    · refine Own.aloadN X49 d6_108 rfl rfl ?_
      refine Own.getF_ X49 d6_109 (host := "") (Or.inl (Own.wd hw 15 rfl)) Via.refl F37 fun T63 X63 => ?_
      clear X49
      refine Own.iload X63 d6_112 rfl ?_
      refine Own.daload_ X63 d6_114 F41 (by decide) rfl ?_
      refine Own.aloadN X63 d6_115 rfl rfl ?_
      refine Own.getF_ X63 d6_116 (host := "") (Or.inl (Own.wd hw 15 rfl)) Via.refl F37 fun T64 X64 => ?_
      clear X63
      refine Own.aloadN X64 d6_119 rfl rfl ?_
      refine Own.getF_ X64 d6_120 (host := "") (Or.inl (Own.wd hw 37 rfl)) Via.refl F44 fun T65 X65 => ?_
      clear X64
      refine Own.daload_ X65 d6_123 F41 (by decide) rfl ?_
      refine Own.dcmpF X65 (pc' := 154) d6_124 d6_125 (by decide) n_b1 n_b0 (fun (h124 : ¬ (Own.dz b1 = Own.dz b0)) => ?_) (fun h124' => ?_)
      · exact J104_82 _ _ _ ((if_neg h104).trans (if_neg h124)).symm (X65.more (by decide) (by decide)) Z45 F34 F35 F36 F37 F38 F39 F40 F41 F42 F43 F44
      · have h124 : Own.dz b1 = Own.dz b0 := Classical.not_not.mp h124'
        refine Own.aloadN X65 d6_128 rfl rfl ?_
        refine Own.getF_ X65 d6_129 (host := "") (Or.inl (Own.wd hw 18 rfl)) Via.refl F38 fun T66 X66 => ?_
        clear X65
        refine Own.iload X66 d6_132 rfl ?_
        refine Own.laload_ X66 d6_134 F42 (by decide) rfl ?_
        refine Own.aloadN X66 d6_135 rfl rfl ?_
        refine Own.getF_ X66 d6_136 (host := "") (Or.inl (Own.wd hw 18 rfl)) Via.refl F38 fun T67 X67 => ?_
        clear X66
        refine Own.aloadN X67 d6_139 rfl rfl ?_
        refine Own.getF_ X67 d6_140 (host := "") (Or.inl (Own.wd hw 37 rfl)) Via.refl F44 fun T68 X68 => ?_
        clear X67
        refine Own.laload_ X68 d6_143 F42 (by decide) rfl ?_
        refine Own.lcmpF X68 (pc' := 154) d6_144 d6_145 (by decide) (fun (h144 : m0.toInt ≤ m1.toInt) => ?_) (fun (h144 : ¬ (m0.toInt ≤ m1.toInt)) => ?_)
        · exact J104_82 _ _ _ (((if_neg h104).trans (if_pos h124)).trans (if_pos h144)).symm (X68.more (by decide) (by decide)) Z45 F34 F35 F36 F37 F38 F39 F40 F41 F42 F43 F44
        · refine Own.aloadN X68 d6_148 rfl rfl ?_
          refine Own.iload X68 d6_149 rfl ?_
          refine Own.putF_ X68 d6_151 (host := "") (Or.inl (Own.wd hw 37 rfl)) Via.refl F44 F34 (Or.inl (Own.wd hw 38 rfl)) (Own.wd hw 2 rfl) (ty := .int) (by decide) rfl rfl fq0 fun T69 h69 X69 W69 => ?_
          have F70 := F34.wr W69
          have F71 := F35.wr W69 (Or.inl (List.mem_of_getElem? (i := 0) rfl))
          have F72 := F36.other W69 (Or.inr (slot_ne (Or.inr (Own.wd hw 13 rfl)) (Or.inl (Own.wd hw 38 rfl)) (by decide) (t := (.array (.array .int))) (t' := .int) (by decide) (by decide)))
          have F73 := F37.other W69 (Or.inr (slot_ne (Or.inr (Own.wd hw 16 rfl)) (Or.inl (Own.wd hw 38 rfl)) (by decide) (t := (.array .double)) (t' := .int) (by decide) (by decide)))
          have F74 := F38.other W69 (Or.inr (slot_ne (Or.inr (Own.wd hw 19 rfl)) (Or.inl (Own.wd hw 38 rfl)) (by decide) (t := (.array .long)) (t' := .int) (by decide) (by decide)))
          have F75 := F39.other W69 (Or.inr (slot_ne (Or.inl (Own.wd hw 26 rfl)) (Or.inl (Own.wd hw 38 rfl)) (by decide) (t := .int) (t' := .int) (by decide) (by decide)))
          have F76 := F40.other W69 (Ne.symm nq5)
          have F77 := F41.other W69 (Ne.symm nq1)
          have F78 := F42.other W69 (Ne.symm nq2)
          have F79 := F43.other W69 (Or.inr (slot_ne (Or.inl (Own.wd hw 40 rfl)) (Or.inl (Own.wd hw 38 rfl)) (by decide) (t := .int) (t' := .int) (by decide) (by decide)))
          have F80 : Fld Z h69 a "com/example/allocus/allocus/method/Population" "worst" "I" (.int (1 : Int32)) := Fld.same W69 F44
          have Z81 : n0 ≤ h69.size := by rw [W69.size]; exact Z45
          exact J104_82 _ _ _ (((if_neg h104).trans (if_pos h124)).trans (if_neg h144)).symm (X69.more (by decide) (by decide)) Z81 F70 F71 F72 F73 F74 F75 F76 F77 F78 F79 F80
  intro T82 h82 z154_94 e_z154_94 X82 Z82 F83 F84 F85 F86 F87 F88 F89 F90 F91 F92 F93
  obtain ⟨bz_z154_94, mz_z154_94, hj_z154_94, hvb_z154_94, hvm_z154_94, n_bz_z154_94⟩ : ∃ (bb : UInt64) (mm : Int64), (¬ z154_94 < 0 ∧ z154_94 < (3 : Int32)) ∧ ([.double b0, .double b1, .double dv] : List Value).getD z154_94.toNatClampNeg (.double 0) = .double bb ∧ ([.long m0, .long m1, .long eJ] : List Value).getD z154_94.toNatClampNeg (.long (0 : Int64)) = .long mm ∧ NoNaN64 bb := by
    have hz : z154_94 = 0 ∨ z154_94 = 1 := own_01 e_z154_94
    rcases hz with hz | hz <;> rw [hz]
    · exact ⟨b0, m0, by decide, rfl, rfl, n_b0⟩
    · exact ⟨b1, m1, by decide, rfl, rfl, n_b1⟩
  clear X49
  refine Own.iinc X82 d6_154 rfl (l' := #[.val (.ref a), .val (.ref si), .val (.double dv), .second, .val (.int (1 : Int32)), .val (.int (2 : Int32)), .val (.int (2 : Int32))]) rfl ?_
  refine Own.goto_ X82 (pc' := 79) d6_157 (by decide) ?_
  refine Own.iload X82 d6_79 rfl ?_
  refine Own.aloadN X82 d6_81 rfl rfl ?_
  refine Own.getF_ X82 d6_82 (host := "") (Or.inl (Own.wd hw 25 rfl)) Via.refl F88 fun T95 X95 => ?_
  clear X82
  refine Own.icmp_ X95 (pc' := 160) d6_85 (by decide) (fun q => absurd (show (3 : Int) ≤ (2 : Int) from q) (show ¬ ((3 : Int) ≤ (2 : Int)) from by decide)) (fun _ => ?_)
  refine Own.aloadN X95 d6_88 rfl rfl ?_
  refine Own.getF_ X95 d6_89 (host := "") (Or.inl (Own.wd hw 15 rfl)) Via.refl F86 fun T96 X96 => ?_
  clear X95
  refine Own.iload X96 d6_92 rfl ?_
  refine Own.daload_ X96 d6_94 F90 (by decide) rfl ?_
  refine Own.aloadN X96 d6_95 rfl rfl ?_
  refine Own.getF_ X96 d6_96 (host := "") (Or.inl (Own.wd hw 15 rfl)) Via.refl F86 fun T97 X97 => ?_
  clear X96
  refine Own.aloadN X97 d6_99 rfl rfl ?_
  refine Own.getF_ X97 d6_100 (host := "") (Or.inl (Own.wd hw 37 rfl)) Via.refl F93 fun T98 X98 => ?_
  clear X97
  refine Own.daload_ X98 d6_103 F90 hj_z154_94 hvb_z154_94 ?_
  suffices J104_131 : ∀ (T131 : State) (h131 : Heap), ∀ (z154_143 : Int32), z154_143 = (if Own.dz bz_z154_94 < Own.dz dv then (2 : Int32) else (if Own.dz dv = Own.dz bz_z154_94 then (if mz_z154_94.toInt ≤ eJ.toInt then z154_94 else (2 : Int32)) else z154_94)) → Own.St p l e ({ frames := 3, cells := 0, slots := 0, locals := 48 } : Room) s m #[.ref a, .ref si, .double dv] below meth c Z prog_48_method_6_code "com/example/allocus/allocus/method/Population" "offer" 7 (some .boolean) n0 T131 h131 0 0 → n0 ≤ h131.size → Exa Z h131 a "com/example/allocus/allocus/method/Population" → Keep h0 h131 [a, x2, oa, na] → Fld Z h131 a "com/example/allocus/allocus/method/Population" "plans" "[[I" (.ref pl) → Fld Z h131 a "com/example/allocus/allocus/method/Population" "objectives" "[D" (.ref oa) → Fld Z h131 a "com/example/allocus/allocus/method/Population" "entered" "[J" (.ref na) → Fld Z h131 a "com/example/allocus/allocus/method/Population" "count" "I" (.int (3 : Int32)) → Arv Z h131 x2 c_pl .int (1 : Int32) [.int y0] (.int (0 : Int32)) → Arv Z h131 oa k_oa .double (3 : Int32) [.double b0, .double b1, .double dv] (.double 0) → Arv Z h131 na k_na .long (3 : Int32) [.long m0, .long m1, .long eJ] (.long (0 : Int64)) → Fld Z h131 a "com/example/allocus/allocus/method/Population" "best" "I" (.int (2 : Int32)) → Fld Z h131 a "com/example/allocus/allocus/method/Population" "worst" "I" (.int z154_143) → Own.Go p e below s n0 (fun v h => v = some (.int (1 : Int32)) ∧ Keep h0 h [a, x2, oa, na] ∧ Fld Z h a "com/example/allocus/allocus/method/Population" "plans" "[[I" (.ref pl) ∧ Fld Z h a "com/example/allocus/allocus/method/Population" "best" "I" (.int (2 : Int32)) ∧ Arv Z h x2 c_pl .int (1 : Int32) [.int y0] (.int (0 : Int32))) 0 0 (T131.setTop (mkF m 154 #[.val (.ref a), .val (.ref si), .val (.double dv), .second, .val (.int (1 : Int32)), .val (.int (2 : Int32)), .val (.int (2 : Int32))] [])) by
    refine Own.dcmpF X98 (pc' := 148) d6_104 d6_105 (by decide) n_dv n_bz_z154_94 (fun (h104 : Own.dz bz_z154_94 < Own.dz dv) => ?_) (fun (h104 : ¬ (Own.dz bz_z154_94 < Own.dz dv)) => ?_)
    · refine Own.aloadN X98 d6_148 rfl rfl ?_
      refine Own.iload X98 d6_149 rfl ?_
      refine Own.putF_ X98 d6_151 (host := "") (Or.inl (Own.wd hw 37 rfl)) Via.refl F93 F83 (Or.inl (Own.wd hw 38 rfl)) (Own.wd hw 2 rfl) (ty := .int) (by decide) rfl rfl fq0 fun T99 h99 X99 W99 => ?_
      have F100 := F83.wr W99
      have F101 := F84.wr W99 (Or.inl (List.mem_of_getElem? (i := 0) rfl))
      have F102 := F85.other W99 (Or.inr (slot_ne (Or.inr (Own.wd hw 13 rfl)) (Or.inl (Own.wd hw 38 rfl)) (by decide) (t := (.array (.array .int))) (t' := .int) (by decide) (by decide)))
      have F103 := F86.other W99 (Or.inr (slot_ne (Or.inr (Own.wd hw 16 rfl)) (Or.inl (Own.wd hw 38 rfl)) (by decide) (t := (.array .double)) (t' := .int) (by decide) (by decide)))
      have F104 := F87.other W99 (Or.inr (slot_ne (Or.inr (Own.wd hw 19 rfl)) (Or.inl (Own.wd hw 38 rfl)) (by decide) (t := (.array .long)) (t' := .int) (by decide) (by decide)))
      have F105 := F88.other W99 (Or.inr (slot_ne (Or.inl (Own.wd hw 26 rfl)) (Or.inl (Own.wd hw 38 rfl)) (by decide) (t := .int) (t' := .int) (by decide) (by decide)))
      have F106 := F89.other W99 (Ne.symm nq5)
      have F107 := F90.other W99 (Ne.symm nq1)
      have F108 := F91.other W99 (Ne.symm nq2)
      have F109 := F92.other W99 (Or.inr (slot_ne (Or.inl (Own.wd hw 40 rfl)) (Or.inl (Own.wd hw 38 rfl)) (by decide) (t := .int) (t' := .int) (by decide) (by decide)))
      have F110 : Fld Z h99 a "com/example/allocus/allocus/method/Population" "worst" "I" (.int (2 : Int32)) := Fld.same W99 F93
      have Z111 : n0 ≤ h99.size := by rw [W99.size]; exact Z82
      exact J104_131 _ _ _ (if_pos h104).symm (X99.more (by decide) (by decide)) Z111 F100 F101 F102 F103 F104 F105 F106 F107 F108 F109 F110
    · refine Own.aloadN X98 d6_108 rfl rfl ?_
      refine Own.getF_ X98 d6_109 (host := "") (Or.inl (Own.wd hw 15 rfl)) Via.refl F86 fun T112 X112 => ?_
      clear X98
      refine Own.iload X112 d6_112 rfl ?_
      refine Own.daload_ X112 d6_114 F90 (by decide) rfl ?_
      refine Own.aloadN X112 d6_115 rfl rfl ?_
      refine Own.getF_ X112 d6_116 (host := "") (Or.inl (Own.wd hw 15 rfl)) Via.refl F86 fun T113 X113 => ?_
      clear X112
      refine Own.aloadN X113 d6_119 rfl rfl ?_
      refine Own.getF_ X113 d6_120 (host := "") (Or.inl (Own.wd hw 37 rfl)) Via.refl F93 fun T114 X114 => ?_
      clear X113
      refine Own.daload_ X114 d6_123 F90 hj_z154_94 hvb_z154_94 ?_
      refine Own.dcmpF X114 (pc' := 154) d6_124 d6_125 (by decide) n_dv n_bz_z154_94 (fun (h124 : ¬ (Own.dz dv = Own.dz bz_z154_94)) => ?_) (fun h124' => ?_)
      · exact J104_131 _ _ _ ((if_neg h104).trans (if_neg h124)).symm (X114.more (by decide) (by decide)) Z82 F83 F84 F85 F86 F87 F88 F89 F90 F91 F92 F93
      · have h124 : Own.dz dv = Own.dz bz_z154_94 := Classical.not_not.mp h124'
        refine Own.aloadN X114 d6_128 rfl rfl ?_
        refine Own.getF_ X114 d6_129 (host := "") (Or.inl (Own.wd hw 18 rfl)) Via.refl F87 fun T115 X115 => ?_
        clear X114
        refine Own.iload X115 d6_132 rfl ?_
        refine Own.laload_ X115 d6_134 F91 (by decide) rfl ?_
        refine Own.aloadN X115 d6_135 rfl rfl ?_
        refine Own.getF_ X115 d6_136 (host := "") (Or.inl (Own.wd hw 18 rfl)) Via.refl F87 fun T116 X116 => ?_
        clear X115
        refine Own.aloadN X116 d6_139 rfl rfl ?_
        refine Own.getF_ X116 d6_140 (host := "") (Or.inl (Own.wd hw 37 rfl)) Via.refl F93 fun T117 X117 => ?_
        clear X116
        refine Own.laload_ X117 d6_143 F91 hj_z154_94 hvm_z154_94 ?_
        refine Own.lcmpF X117 (pc' := 154) d6_144 d6_145 (by decide) (fun (h144 : mz_z154_94.toInt ≤ eJ.toInt) => ?_) (fun (h144 : ¬ (mz_z154_94.toInt ≤ eJ.toInt)) => ?_)
        · exact J104_131 _ _ _ (((if_neg h104).trans (if_pos h124)).trans (if_pos h144)).symm (X117.more (by decide) (by decide)) Z82 F83 F84 F85 F86 F87 F88 F89 F90 F91 F92 F93
        · refine Own.aloadN X117 d6_148 rfl rfl ?_
          refine Own.iload X117 d6_149 rfl ?_
          refine Own.putF_ X117 d6_151 (host := "") (Or.inl (Own.wd hw 37 rfl)) Via.refl F93 F83 (Or.inl (Own.wd hw 38 rfl)) (Own.wd hw 2 rfl) (ty := .int) (by decide) rfl rfl fq0 fun T118 h118 X118 W118 => ?_
          have F119 := F83.wr W118
          have F120 := F84.wr W118 (Or.inl (List.mem_of_getElem? (i := 0) rfl))
          have F121 := F85.other W118 (Or.inr (slot_ne (Or.inr (Own.wd hw 13 rfl)) (Or.inl (Own.wd hw 38 rfl)) (by decide) (t := (.array (.array .int))) (t' := .int) (by decide) (by decide)))
          have F122 := F86.other W118 (Or.inr (slot_ne (Or.inr (Own.wd hw 16 rfl)) (Or.inl (Own.wd hw 38 rfl)) (by decide) (t := (.array .double)) (t' := .int) (by decide) (by decide)))
          have F123 := F87.other W118 (Or.inr (slot_ne (Or.inr (Own.wd hw 19 rfl)) (Or.inl (Own.wd hw 38 rfl)) (by decide) (t := (.array .long)) (t' := .int) (by decide) (by decide)))
          have F124 := F88.other W118 (Or.inr (slot_ne (Or.inl (Own.wd hw 26 rfl)) (Or.inl (Own.wd hw 38 rfl)) (by decide) (t := .int) (t' := .int) (by decide) (by decide)))
          have F125 := F89.other W118 (Ne.symm nq5)
          have F126 := F90.other W118 (Ne.symm nq1)
          have F127 := F91.other W118 (Ne.symm nq2)
          have F128 := F92.other W118 (Or.inr (slot_ne (Or.inl (Own.wd hw 40 rfl)) (Or.inl (Own.wd hw 38 rfl)) (by decide) (t := .int) (t' := .int) (by decide) (by decide)))
          have F129 : Fld Z h118 a "com/example/allocus/allocus/method/Population" "worst" "I" (.int (2 : Int32)) := Fld.same W118 F93
          have Z130 : n0 ≤ h118.size := by rw [W118.size]; exact Z82
          exact J104_131 _ _ _ (((if_neg h104).trans (if_pos h124)).trans (if_neg h144)).symm (X118.more (by decide) (by decide)) Z130 F119 F120 F121 F122 F123 F124 F125 F126 F127 F128 F129
  intro T131 h131 z154_143 e_z154_143 X131 Z131 F132 F133 F134 F135 F136 F137 F138 F139 F140 F141 F142
  skip
  clear X98
  refine Own.iinc X131 d6_154 rfl (l' := #[.val (.ref a), .val (.ref si), .val (.double dv), .second, .val (.int (1 : Int32)), .val (.int (2 : Int32)), .val (.int (3 : Int32))]) rfl ?_
  refine Own.goto_ X131 (pc' := 79) d6_157 (by decide) ?_
  refine Own.iload X131 d6_79 rfl ?_
  refine Own.aloadN X131 d6_81 rfl rfl ?_
  refine Own.getF_ X131 d6_82 (host := "") (Or.inl (Own.wd hw 25 rfl)) Via.refl F137 fun T144 X144 => ?_
  clear X131
  refine Own.icmp_ X144 (pc' := 160) d6_85 (by decide) (fun _ => ?_) (fun q => absurd (show (3 : Int) ≤ (3 : Int) from by decide) q)
  refine Own.iload X144 d6_160 rfl ?_
  exact Own.retB X144 d6_162 (by decide) ⟨rfl, F133, F134, F141, F138⟩ (by decide) (by decide)
theorem ef_6_2A (m : MethodId) (x0 : Addr) (x1 : Addr) (x2 : UInt64) : entryFrame m #[.ref x0, .ref x1, .double x2] 7 = mkF m 0 #[.val (.ref x0), .val (.ref x1), .val (.double x2), .second, .unset, .unset, .unset] [] := by first | (simp [entryFrame, mkF, argsToLocals, Value.category, maxLocals]; done) | rfl
set_option maxRecDepth 65536 in
set_option maxHeartbeats 40000000 in
theorem rm6_2A (l : Launch) (Z : State) (a0 : Array Value) (hw : ∀ d ∈ tables_1, d.before a0 Z = true) (a : Addr) (si : Addr) (dv : UInt64) (pl : Addr) (oa : Addr) (na : Addr) (x0 : Addr) (x1 : Addr) (x2 : Addr) (k_pl : ClassId) (c_pl : ClassId) (k_oa : ClassId) (k_na : ClassId) (b0 : UInt64) (b1 : UInt64) (b2 : UInt64) (m0 : Int64) (m1 : Int64) (m2 : Int64) (eJ : Int64) (k_si : ClassId) (y0 : Int32) (be : Int32) (u00 : Int32) (u10 : Int32) (u20 : Int32) (h0 : Heap) (n0 : Nat) (Z0 : n0 ≤ h0.size) (fc0 : Exa Z h0 a "com/example/allocus/allocus/method/Population") (fc1 : Fld Z h0 a "com/example/allocus/allocus/method/Population" "plans" "[[I" (.ref pl)) (fc2 : Fld Z h0 a "com/example/allocus/allocus/method/Population" "objectives" "[D" (.ref oa)) (fc3 : Fld Z h0 a "com/example/allocus/allocus/method/Population" "entered" "[J" (.ref na)) (fc4 : Fld Z h0 a "com/example/allocus/allocus/method/Population" "count" "I" (.int (3 : Int32))) (fc5 : Fld Z h0 a "com/example/allocus/allocus/method/Population" "entries" "J" (.long eJ)) (fc6 : Fld Z h0 a "com/example/allocus/allocus/method/Population" "worst" "I" (.int (2 : Int32))) (fc7 : Fld Z h0 a "com/example/allocus/allocus/method/Population" "best" "I" (.int be)) (fc8 : Arv Z h0 pl k_pl (.array .int) (3 : Int32) [.ref x0, .ref x1, .ref x2] (.null)) (fc9 : Arv Z h0 x0 c_pl .int (1 : Int32) [.int u00] (.int (0 : Int32))) (fc10 : Arv Z h0 x1 c_pl .int (1 : Int32) [.int u10] (.int (0 : Int32))) (fc11 : Arv Z h0 x2 c_pl .int (1 : Int32) [.int u20] (.int (0 : Int32))) (fc12 : Arv Z h0 oa k_oa .double (3 : Int32) [.double b0, .double b1, .double b2] (.double 0)) (fc13 : Arv Z h0 na k_na .long (3 : Int32) [.long m0, .long m1, .long m2] (.long (0 : Int64))) (fc14 : Arv Z h0 si k_si .int (1 : Int32) [.int y0] (.int (0 : Int32))) (nq0 : a ≠ pl) (nq1 : a ≠ oa) (nq2 : a ≠ na) (nq3 : a ≠ x0) (nq4 : a ≠ x1) (nq5 : a ≠ x2) (nq6 : pl ≠ oa) (nq7 : pl ≠ na) (nq8 : pl ≠ x0) (nq9 : pl ≠ x1) (nq10 : pl ≠ x2) (nq11 : oa ≠ na) (nq12 : oa ≠ x0) (nq13 : oa ≠ x1) (nq14 : oa ≠ x2) (nq15 : na ≠ x0) (nq16 : na ≠ x1) (nq17 : na ≠ x2) (nq18 : x0 ≠ x1) (nq19 : x0 ≠ x2) (nq20 : x1 ≠ x2) (nq21 : si ≠ a) (nq22 : si ≠ pl) (nq23 : si ≠ oa) (nq24 : si ≠ na) (nq25 : si ≠ x0) (nq26 : si ≠ x1) (nq27 : si ≠ x2) (fq0 : n0 ≤ a) (fq1 : n0 ≤ x0) (fq2 : n0 ≤ x1) (fq3 : n0 ≤ x2) (fq4 : n0 ≤ oa) (fq5 : n0 ≤ na) (n_dv : NoNaN64 dv) (n_b0 : NoNaN64 b0) (n_b1 : NoNaN64 b1) (n_b2 : NoNaN64 b2) (cw : Own.dz dv < Own.dz b2) (bx : UInt64) (hj : ¬ be < 0 ∧ be < (3 : Int32)) (hv : ([.double b0, .double b1, .double b2] : List Value).getD be.toNatClampNeg (.double 0) = .double bx) (n_bx : NoNaN64 bx) (cx : Own.dz bx ≤ Own.dz dv) (qm0 : ¬ (u00.toInt = y0.toInt)) (qm1 : ¬ (u10.toInt = y0.toInt)) (qm2 : ¬ (u20.toInt = y0.toInt)) :
    Own.Con l Z mn_11 [] prog_48_method_6_code 7 (some .boolean) ({ frames := 3, cells := 0, slots := 0, locals := 48 } : Room) #[.ref a, .ref si, .double dv] h0 n0 (fun v h => v = some (.int (0 : Int32)) ∧ Keep h0 h [a, x2, oa, na] ∧ Fld Z h a "com/example/allocus/allocus/method/Population" "plans" "[[I" (.ref pl) ∧ Fld Z h a "com/example/allocus/allocus/method/Population" "best" "I" (.int be) ∧ Arv Z h x2 c_pl .int (1 : Int32) [.int y0] (.int (0 : Int32))) := by
  refine Own.enter (own := "com/example/allocus/allocus/method/Population") (nm := "offer") (plainFor_of_name pn_com_example_allocus_allocus_method_Population) rfl rfl (fun m => ef_6_2A m a si dv) fun p e s m below meth c T X => ?_
  refine Own.dloadN X d6_0 rfl ?_
  refine Own.aloadN X d6_1 rfl rfl ?_
  refine Own.getF_ X d6_2 (host := "") (Or.inl (Own.wd hw 15 rfl)) Via.refl fc2 fun T1 X1 => ?_
  clear X
  refine Own.aloadN X1 d6_5 rfl rfl ?_
  refine Own.getF_ X1 d6_6 (host := "") (Or.inl (Own.wd hw 37 rfl)) Via.refl fc6 fun T2 X2 => ?_
  clear X1
  refine Own.daload_ X2 d6_9 fc12 (by decide) rfl ?_
  refine Own.dcmpF X2 (pc' := 23) d6_10 d6_11 (by decide) n_dv n_b2 (fun q => absurd (show Own.dz b2 ≤ Own.dz dv from q) (show ¬ (Own.dz b2 ≤ Own.dz dv) from by omega)) (fun _ => ?_)
  refine Own.aloadN X2 d6_14 rfl rfl ?_
  refine Own.aloadN X2 d6_15 rfl rfl ?_
  refine Own.dloadN X2 d6_16 rfl ?_
  refine Own.callP_ (y := mn_9) (D := "com/example/allocus/allocus/method/Population") (z' := mn_3) (z := mn_3) (a := a) X2 d6_17 (Own.wd hw 60 rfl) (Own.wd hw 61 rfl) (Own.wd hw 23 rfl) rfl (Own.wd hw 62 rfl) (Own.wd hw 3 rfl) (Own.wd hw 63 rfl) (by decide) fc0 (rm7 l Z a0 hw a si dv pl x0 x1 x2 k_pl c_pl oa k_oa k_si y0 b0 b1 b2 u00 u10 u20 h0 n0 Z0 fc1 fc2 fc4 fc8 fc12 fc14 fc9 fc10 fc11 (Ne.symm nq25) (Ne.symm nq26) (Ne.symm nq27) n_dv n_b0 n_b1 n_b2 qm0 qm1 qm2) (lenOf pd_10 rfl) rfl (argsL := [.ref si, .double dv]) (rest := []) rfl (W := 0) (Nat.le_of_eq rfl) (by decide) (by decide) (by decide) (by decide) fun T3 h3 v3 X3 q3 => ?_
  obtain ⟨rfl, rfl⟩ := q3
  show Own.Go p e below s n0 _ _ _ (T3.setTop (mkF m 20 _ [.int (0 : Int32)]))
  clear X2
  refine Own.iff_ X3 (pc' := 25) d6_20 (by decide) (fun _ => ?_) (fun q => absurd (show (0 : Int) = (0 : Int) from by decide) q)
  refine Own.dloadN X3 d6_25 rfl ?_
  refine Own.aloadN X3 d6_26 rfl rfl ?_
  refine Own.getF_ X3 d6_27 (host := "") (Or.inl (Own.wd hw 15 rfl)) Via.refl fc2 fun T4 X4 => ?_
  clear X3
  refine Own.aloadN X4 d6_30 rfl rfl ?_
  refine Own.getF_ X4 d6_31 (host := "") (Or.inl (Own.wd hw 39 rfl)) Via.refl fc7 fun T5 X5 => ?_
  clear X4
  refine Own.daload_ X5 d6_34 fc12 hj hv ?_
  refine Own.dcmpF X5 (pc' := 43) d6_35 d6_36 (by decide) n_dv n_bx (fun _ => ?_) (fun q => absurd (show Own.dz bx ≤ Own.dz dv from by omega) q)
  refine Own.iconst X5 (v := 0) d6_43 rfl ?_
  refine Own.istore X5 d6_44 (l' := #[.val (.ref a), .val (.ref si), .val (.double dv), .second, .val (.int (0 : Int32)), .unset, .unset]) rfl ?_
  refine Own.aloadN X5 d6_46 rfl rfl ?_
  refine Own.getF_ X5 d6_47 (host := "") (Or.inl (Own.wd hw 37 rfl)) Via.refl fc6 fun T6 X6 => ?_
  clear X5
  refine Own.istore X6 d6_50 (l' := #[.val (.ref a), .val (.ref si), .val (.double dv), .second, .val (.int (0 : Int32)), .val (.int (2 : Int32)), .unset]) rfl ?_
  refine Own.aloadN X6 d6_52 rfl rfl ?_
  refine Own.iload X6 d6_53 rfl ?_
  refine Own.aloadN X6 d6_55 rfl rfl ?_
  refine Own.dloadN X6 d6_56 rfl ?_
  refine Own.callP_ (y := mn_1) (D := "com/example/allocus/allocus/method/Population") (z' := mn_3) (z := mn_3) (a := a) X6 d6_57 (Own.wd hw 27 rfl) (Own.wd hw 28 rfl) (Own.wd hw 23 rfl) rfl (Own.wd hw 29 rfl) (Own.wd hw 3 rfl) (Own.wd hw 30 rfl) (by decide) fc0 (rm4_2 l Z a0 hw a si dv pl oa na x0 x1 x2 k_pl c_pl k_oa k_na b0 b1 b2 m0 m1 m2 eJ k_si y0 u20 (3 : Int32) (2 : Int32) be h0 n0 Z0 fc0 fc1 fc2 fc3 fc4 fc5 fc6 fc7 fc8 fc11 fc12 fc13 fc14 nq0 nq1 nq2 nq3 nq4 nq5 nq6 nq7 nq8 nq9 nq10 nq11 nq12 nq13 nq14 nq15 nq16 nq17 nq18 nq19 nq20 nq21 nq22 nq23 nq24 nq25 nq26 nq27 fq0 fq1 fq2 fq3 fq4 fq5 ) (lenOf pd_2 rfl) rfl (argsL := [.int (2 : Int32), .ref si, .double dv]) (rest := []) rfl (W := 0) (Nat.le_of_eq rfl) (by decide) (by decide) (by decide) (by decide) fun T7 h7 v7 X7 q7 => ?_
  obtain ⟨rfl, K7, G7_0, G7_1, G7_2, G7_3, G7_4, G7_5, G7_6, G7_7, G7_8, G7_9⟩ := q7
  have F8 := fc0.keep K7
  have F9 := fc8.keep K7 (ninS (Ne.symm nq0) (ninS nq10 (ninS nq6 (ninS nq7 nin0))))
  have F10 := fc9.keep K7 (ninS (Ne.symm nq3) (ninS nq19 (ninS (Ne.symm nq12) (ninS (Ne.symm nq15) nin0))))
  have F11 := fc10.keep K7 (ninS (Ne.symm nq4) (ninS nq20 (ninS (Ne.symm nq13) (ninS (Ne.symm nq16) nin0))))
  have F12 := fc14.keep K7 (ninS nq21 (ninS nq27 (ninS nq23 (ninS nq24 nin0))))
  have F13 := (Keep.refl h0 [a, x2, oa, na]).trans K7 (allS (Or.inl (List.mem_of_getElem? (i := 0) rfl)) (allS (Or.inl (List.mem_of_getElem? (i := 1) rfl)) (allS (Or.inl (List.mem_of_getElem? (i := 2) rfl)) (allS (Or.inl (List.mem_of_getElem? (i := 3) rfl)) all0))))
  have Z14 : n0 ≤ h7.size := Nat.le_trans Z0 K7.1
  show Own.Go p e below s n0 _ _ _ (T7.setTop (mkF m 60 _ []))
  clear X6 fc0 fc1 fc10 fc11 fc12 fc13 fc14 fc2 fc3 fc4 fc5 fc6 fc7 fc8 fc9
  refine Own.iload X7 d6_60 rfl ?_
  refine Own.iff_ X7 (pc' := 71) d6_62 (by decide) (fun _ => ?_) (fun q => absurd (show (0 : Int) = (0 : Int) from by decide) q)
  refine Own.aloadN X7 d6_71 rfl rfl ?_
  refine Own.iconst X7 (v := 0) d6_72 rfl ?_
  refine Own.putF_ X7 d6_73 (host := "") (Or.inl (Own.wd hw 37 rfl)) Via.refl G7_5 F8 (Or.inl (Own.wd hw 38 rfl)) (Own.wd hw 2 rfl) (ty := .int) (by decide) rfl rfl fq0 fun T15 h15 X15 W15 => ?_
  have F16 := F8.wr W15
  have F17 := F13.wr W15 (Or.inl (List.mem_of_getElem? (i := 0) rfl))
  have F18 := G7_0.other W15 (Or.inr (slot_ne (Or.inr (Own.wd hw 13 rfl)) (Or.inl (Own.wd hw 38 rfl)) (by decide) (t := (.array (.array .int))) (t' := .int) (by decide) (by decide)))
  have F19 := G7_1.other W15 (Or.inr (slot_ne (Or.inr (Own.wd hw 16 rfl)) (Or.inl (Own.wd hw 38 rfl)) (by decide) (t := (.array .double)) (t' := .int) (by decide) (by decide)))
  have F20 := G7_2.other W15 (Or.inr (slot_ne (Or.inr (Own.wd hw 19 rfl)) (Or.inl (Own.wd hw 38 rfl)) (by decide) (t := (.array .long)) (t' := .int) (by decide) (by decide)))
  have F21 := G7_3.other W15 (Or.inr (slot_ne (Or.inl (Own.wd hw 26 rfl)) (Or.inl (Own.wd hw 38 rfl)) (by decide) (t := .int) (t' := .int) (by decide) (by decide)))
  have F22 := G7_6.other W15 (Or.inr (slot_ne (Or.inl (Own.wd hw 40 rfl)) (Or.inl (Own.wd hw 38 rfl)) (by decide) (t := .int) (t' := .int) (by decide) (by decide)))
  have F23 := G7_7.other W15 (Ne.symm nq5)
  have F24 := G7_8.other W15 (Ne.symm nq1)
  have F25 := G7_9.other W15 (Ne.symm nq2)
  have F26 : Fld Z h15 a "com/example/allocus/allocus/method/Population" "worst" "I" (.int (0 : Int32)) := Fld.same W15 G7_5
  have Z27 : n0 ≤ h15.size := by rw [W15.size]; exact Z14
  clear F13 F8 G7_0 G7_1 G7_2 G7_3 G7_5 G7_6 G7_7 G7_8 G7_9 X7
  refine Own.iconst X15 (v := 1) d6_76 rfl ?_
  refine Own.istore X15 d6_77 (l' := #[.val (.ref a), .val (.ref si), .val (.double dv), .second, .val (.int (0 : Int32)), .val (.int (2 : Int32)), .val (.int (1 : Int32))]) rfl ?_
  refine Own.iload X15 d6_79 rfl ?_
  refine Own.aloadN X15 d6_81 rfl rfl ?_
  refine Own.getF_ X15 d6_82 (host := "") (Or.inl (Own.wd hw 25 rfl)) Via.refl F21 fun T28 X28 => ?_
  clear X15
  refine Own.icmp_ X28 (pc' := 160) d6_85 (by decide) (fun q => absurd (show (3 : Int) ≤ (1 : Int) from q) (show ¬ ((3 : Int) ≤ (1 : Int)) from by decide)) (fun _ => ?_)
  refine Own.aloadN X28 d6_88 rfl rfl ?_
  refine Own.getF_ X28 d6_89 (host := "") (Or.inl (Own.wd hw 15 rfl)) Via.refl F19 fun T29 X29 => ?_
  clear X28
  refine Own.iload X29 d6_92 rfl ?_
  refine Own.daload_ X29 d6_94 F24 (by decide) rfl ?_
  refine Own.aloadN X29 d6_95 rfl rfl ?_
  refine Own.getF_ X29 d6_96 (host := "") (Or.inl (Own.wd hw 15 rfl)) Via.refl F19 fun T30 X30 => ?_
  clear X29
  refine Own.aloadN X30 d6_99 rfl rfl ?_
  refine Own.getF_ X30 d6_100 (host := "") (Or.inl (Own.wd hw 37 rfl)) Via.refl F26 fun T31 X31 => ?_
  clear X30
  refine Own.daload_ X31 d6_103 F24 (by decide) rfl ?_
  suffices J104_64 : ∀ (T64 : State) (h64 : Heap), ∀ (z154_76 : Int32), z154_76 = (if Own.dz b0 < Own.dz b1 then (1 : Int32) else (if Own.dz b1 = Own.dz b0 then (if m0.toInt ≤ m1.toInt then (0 : Int32) else (1 : Int32)) else (0 : Int32))) → Own.St p l e ({ frames := 3, cells := 0, slots := 0, locals := 48 } : Room) s m #[.ref a, .ref si, .double dv] below meth c Z prog_48_method_6_code "com/example/allocus/allocus/method/Population" "offer" 7 (some .boolean) n0 T64 h64 0 0 → n0 ≤ h64.size → Exa Z h64 a "com/example/allocus/allocus/method/Population" → Keep h0 h64 [a, x2, oa, na] → Fld Z h64 a "com/example/allocus/allocus/method/Population" "plans" "[[I" (.ref pl) → Fld Z h64 a "com/example/allocus/allocus/method/Population" "objectives" "[D" (.ref oa) → Fld Z h64 a "com/example/allocus/allocus/method/Population" "entered" "[J" (.ref na) → Fld Z h64 a "com/example/allocus/allocus/method/Population" "count" "I" (.int (3 : Int32)) → Fld Z h64 a "com/example/allocus/allocus/method/Population" "best" "I" (.int be) → Arv Z h64 x2 c_pl .int (1 : Int32) [.int y0] (.int (0 : Int32)) → Arv Z h64 oa k_oa .double (3 : Int32) [.double b0, .double b1, .double dv] (.double 0) → Arv Z h64 na k_na .long (3 : Int32) [.long m0, .long m1, .long eJ] (.long (0 : Int64)) → Fld Z h64 a "com/example/allocus/allocus/method/Population" "worst" "I" (.int z154_76) → Own.Go p e below s n0 (fun v h => v = some (.int (0 : Int32)) ∧ Keep h0 h [a, x2, oa, na] ∧ Fld Z h a "com/example/allocus/allocus/method/Population" "plans" "[[I" (.ref pl) ∧ Fld Z h a "com/example/allocus/allocus/method/Population" "best" "I" (.int be) ∧ Arv Z h x2 c_pl .int (1 : Int32) [.int y0] (.int (0 : Int32))) 0 0 (T64.setTop (mkF m 154 #[.val (.ref a), .val (.ref si), .val (.double dv), .second, .val (.int (0 : Int32)), .val (.int (2 : Int32)), .val (.int (1 : Int32))] [])) by
    refine Own.dcmpF X31 (pc' := 148) d6_104 d6_105 (by decide) n_b1 n_b0 (fun (h104 : Own.dz b0 < Own.dz b1) => ?_) (fun (h104 : ¬ (Own.dz b0 < Own.dz b1)) => ?_)
    · refine Own.aloadN X31 d6_148 rfl rfl ?_
      refine Own.iload X31 d6_149 rfl ?_
      refine Own.putF_ X31 d6_151 (host := "") (Or.inl (Own.wd hw 37 rfl)) Via.refl F26 F16 (Or.inl (Own.wd hw 38 rfl)) (Own.wd hw 2 rfl) (ty := .int) (by decide) rfl rfl fq0 fun T32 h32 X32 W32 => ?_
      have F33 := F16.wr W32
      have F34 := F17.wr W32 (Or.inl (List.mem_of_getElem? (i := 0) rfl))
      have F35 := F18.other W32 (Or.inr (slot_ne (Or.inr (Own.wd hw 13 rfl)) (Or.inl (Own.wd hw 38 rfl)) (by decide) (t := (.array (.array .int))) (t' := .int) (by decide) (by decide)))
      have F36 := F19.other W32 (Or.inr (slot_ne (Or.inr (Own.wd hw 16 rfl)) (Or.inl (Own.wd hw 38 rfl)) (by decide) (t := (.array .double)) (t' := .int) (by decide) (by decide)))
      have F37 := F20.other W32 (Or.inr (slot_ne (Or.inr (Own.wd hw 19 rfl)) (Or.inl (Own.wd hw 38 rfl)) (by decide) (t := (.array .long)) (t' := .int) (by decide) (by decide)))
      have F38 := F21.other W32 (Or.inr (slot_ne (Or.inl (Own.wd hw 26 rfl)) (Or.inl (Own.wd hw 38 rfl)) (by decide) (t := .int) (t' := .int) (by decide) (by decide)))
      have F39 := F22.other W32 (Or.inr (slot_ne (Or.inl (Own.wd hw 40 rfl)) (Or.inl (Own.wd hw 38 rfl)) (by decide) (t := .int) (t' := .int) (by decide) (by decide)))
      have F40 := F23.other W32 (Ne.symm nq5)
      have F41 := F24.other W32 (Ne.symm nq1)
      have F42 := F25.other W32 (Ne.symm nq2)
      have F43 : Fld Z h32 a "com/example/allocus/allocus/method/Population" "worst" "I" (.int (1 : Int32)) := Fld.same W32 F26
      have Z44 : n0 ≤ h32.size := by rw [W32.size]; exact Z27
      exact J104_64 _ _ _ (if_pos h104).symm (X32.more (by decide) (by decide)) Z44 F33 F34 F35 F36 F37 F38 F39 F40 F41 F42 F43
    · refine Own.aloadN X31 d6_108 rfl rfl ?_
      refine Own.getF_ X31 d6_109 (host := "") (Or.inl (Own.wd hw 15 rfl)) Via.refl F19 fun T45 X45 => ?_
      clear X31
      refine Own.iload X45 d6_112 rfl ?_
      refine Own.daload_ X45 d6_114 F24 (by decide) rfl ?_
      refine Own.aloadN X45 d6_115 rfl rfl ?_
      refine Own.getF_ X45 d6_116 (host := "") (Or.inl (Own.wd hw 15 rfl)) Via.refl F19 fun T46 X46 => ?_
      clear X45
      refine Own.aloadN X46 d6_119 rfl rfl ?_
      refine Own.getF_ X46 d6_120 (host := "") (Or.inl (Own.wd hw 37 rfl)) Via.refl F26 fun T47 X47 => ?_
      clear X46
      refine Own.daload_ X47 d6_123 F24 (by decide) rfl ?_
      refine Own.dcmpF X47 (pc' := 154) d6_124 d6_125 (by decide) n_b1 n_b0 (fun (h124 : ¬ (Own.dz b1 = Own.dz b0)) => ?_) (fun h124' => ?_)
      · exact J104_64 _ _ _ ((if_neg h104).trans (if_neg h124)).symm (X47.more (by decide) (by decide)) Z27 F16 F17 F18 F19 F20 F21 F22 F23 F24 F25 F26
      · have h124 : Own.dz b1 = Own.dz b0 := Classical.not_not.mp h124'
        refine Own.aloadN X47 d6_128 rfl rfl ?_
        refine Own.getF_ X47 d6_129 (host := "") (Or.inl (Own.wd hw 18 rfl)) Via.refl F20 fun T48 X48 => ?_
        clear X47
        refine Own.iload X48 d6_132 rfl ?_
        refine Own.laload_ X48 d6_134 F25 (by decide) rfl ?_
        refine Own.aloadN X48 d6_135 rfl rfl ?_
        refine Own.getF_ X48 d6_136 (host := "") (Or.inl (Own.wd hw 18 rfl)) Via.refl F20 fun T49 X49 => ?_
        clear X48
        refine Own.aloadN X49 d6_139 rfl rfl ?_
        refine Own.getF_ X49 d6_140 (host := "") (Or.inl (Own.wd hw 37 rfl)) Via.refl F26 fun T50 X50 => ?_
        clear X49
        refine Own.laload_ X50 d6_143 F25 (by decide) rfl ?_
        refine Own.lcmpF X50 (pc' := 154) d6_144 d6_145 (by decide) (fun (h144 : m0.toInt ≤ m1.toInt) => ?_) (fun (h144 : ¬ (m0.toInt ≤ m1.toInt)) => ?_)
        · exact J104_64 _ _ _ (((if_neg h104).trans (if_pos h124)).trans (if_pos h144)).symm (X50.more (by decide) (by decide)) Z27 F16 F17 F18 F19 F20 F21 F22 F23 F24 F25 F26
        · refine Own.aloadN X50 d6_148 rfl rfl ?_
          refine Own.iload X50 d6_149 rfl ?_
          refine Own.putF_ X50 d6_151 (host := "") (Or.inl (Own.wd hw 37 rfl)) Via.refl F26 F16 (Or.inl (Own.wd hw 38 rfl)) (Own.wd hw 2 rfl) (ty := .int) (by decide) rfl rfl fq0 fun T51 h51 X51 W51 => ?_
          have F52 := F16.wr W51
          have F53 := F17.wr W51 (Or.inl (List.mem_of_getElem? (i := 0) rfl))
          have F54 := F18.other W51 (Or.inr (slot_ne (Or.inr (Own.wd hw 13 rfl)) (Or.inl (Own.wd hw 38 rfl)) (by decide) (t := (.array (.array .int))) (t' := .int) (by decide) (by decide)))
          have F55 := F19.other W51 (Or.inr (slot_ne (Or.inr (Own.wd hw 16 rfl)) (Or.inl (Own.wd hw 38 rfl)) (by decide) (t := (.array .double)) (t' := .int) (by decide) (by decide)))
          have F56 := F20.other W51 (Or.inr (slot_ne (Or.inr (Own.wd hw 19 rfl)) (Or.inl (Own.wd hw 38 rfl)) (by decide) (t := (.array .long)) (t' := .int) (by decide) (by decide)))
          have F57 := F21.other W51 (Or.inr (slot_ne (Or.inl (Own.wd hw 26 rfl)) (Or.inl (Own.wd hw 38 rfl)) (by decide) (t := .int) (t' := .int) (by decide) (by decide)))
          have F58 := F22.other W51 (Or.inr (slot_ne (Or.inl (Own.wd hw 40 rfl)) (Or.inl (Own.wd hw 38 rfl)) (by decide) (t := .int) (t' := .int) (by decide) (by decide)))
          have F59 := F23.other W51 (Ne.symm nq5)
          have F60 := F24.other W51 (Ne.symm nq1)
          have F61 := F25.other W51 (Ne.symm nq2)
          have F62 : Fld Z h51 a "com/example/allocus/allocus/method/Population" "worst" "I" (.int (1 : Int32)) := Fld.same W51 F26
          have Z63 : n0 ≤ h51.size := by rw [W51.size]; exact Z27
          exact J104_64 _ _ _ (((if_neg h104).trans (if_pos h124)).trans (if_neg h144)).symm (X51.more (by decide) (by decide)) Z63 F52 F53 F54 F55 F56 F57 F58 F59 F60 F61 F62
  intro T64 h64 z154_76 e_z154_76 X64 Z64 F65 F66 F67 F68 F69 F70 F71 F72 F73 F74 F75
  obtain ⟨bz_z154_76, mz_z154_76, hj_z154_76, hvb_z154_76, hvm_z154_76, n_bz_z154_76⟩ : ∃ (bb : UInt64) (mm : Int64), (¬ z154_76 < 0 ∧ z154_76 < (3 : Int32)) ∧ ([.double b0, .double b1, .double dv] : List Value).getD z154_76.toNatClampNeg (.double 0) = .double bb ∧ ([.long m0, .long m1, .long eJ] : List Value).getD z154_76.toNatClampNeg (.long (0 : Int64)) = .long mm ∧ NoNaN64 bb := by
    have hz : z154_76 = 0 ∨ z154_76 = 1 := own_01 e_z154_76
    rcases hz with hz | hz <;> rw [hz]
    · exact ⟨b0, m0, by decide, rfl, rfl, n_b0⟩
    · exact ⟨b1, m1, by decide, rfl, rfl, n_b1⟩
  clear X31
  refine Own.iinc X64 d6_154 rfl (l' := #[.val (.ref a), .val (.ref si), .val (.double dv), .second, .val (.int (0 : Int32)), .val (.int (2 : Int32)), .val (.int (2 : Int32))]) rfl ?_
  refine Own.goto_ X64 (pc' := 79) d6_157 (by decide) ?_
  refine Own.iload X64 d6_79 rfl ?_
  refine Own.aloadN X64 d6_81 rfl rfl ?_
  refine Own.getF_ X64 d6_82 (host := "") (Or.inl (Own.wd hw 25 rfl)) Via.refl F70 fun T77 X77 => ?_
  clear X64
  refine Own.icmp_ X77 (pc' := 160) d6_85 (by decide) (fun q => absurd (show (3 : Int) ≤ (2 : Int) from q) (show ¬ ((3 : Int) ≤ (2 : Int)) from by decide)) (fun _ => ?_)
  refine Own.aloadN X77 d6_88 rfl rfl ?_
  refine Own.getF_ X77 d6_89 (host := "") (Or.inl (Own.wd hw 15 rfl)) Via.refl F68 fun T78 X78 => ?_
  clear X77
  refine Own.iload X78 d6_92 rfl ?_
  refine Own.daload_ X78 d6_94 F73 (by decide) rfl ?_
  refine Own.aloadN X78 d6_95 rfl rfl ?_
  refine Own.getF_ X78 d6_96 (host := "") (Or.inl (Own.wd hw 15 rfl)) Via.refl F68 fun T79 X79 => ?_
  clear X78
  refine Own.aloadN X79 d6_99 rfl rfl ?_
  refine Own.getF_ X79 d6_100 (host := "") (Or.inl (Own.wd hw 37 rfl)) Via.refl F75 fun T80 X80 => ?_
  clear X79
  refine Own.daload_ X80 d6_103 F73 hj_z154_76 hvb_z154_76 ?_
  suffices J104_113 : ∀ (T113 : State) (h113 : Heap), ∀ (z154_125 : Int32), z154_125 = (if Own.dz bz_z154_76 < Own.dz dv then (2 : Int32) else (if Own.dz dv = Own.dz bz_z154_76 then (if mz_z154_76.toInt ≤ eJ.toInt then z154_76 else (2 : Int32)) else z154_76)) → Own.St p l e ({ frames := 3, cells := 0, slots := 0, locals := 48 } : Room) s m #[.ref a, .ref si, .double dv] below meth c Z prog_48_method_6_code "com/example/allocus/allocus/method/Population" "offer" 7 (some .boolean) n0 T113 h113 0 0 → n0 ≤ h113.size → Exa Z h113 a "com/example/allocus/allocus/method/Population" → Keep h0 h113 [a, x2, oa, na] → Fld Z h113 a "com/example/allocus/allocus/method/Population" "plans" "[[I" (.ref pl) → Fld Z h113 a "com/example/allocus/allocus/method/Population" "objectives" "[D" (.ref oa) → Fld Z h113 a "com/example/allocus/allocus/method/Population" "entered" "[J" (.ref na) → Fld Z h113 a "com/example/allocus/allocus/method/Population" "count" "I" (.int (3 : Int32)) → Fld Z h113 a "com/example/allocus/allocus/method/Population" "best" "I" (.int be) → Arv Z h113 x2 c_pl .int (1 : Int32) [.int y0] (.int (0 : Int32)) → Arv Z h113 oa k_oa .double (3 : Int32) [.double b0, .double b1, .double dv] (.double 0) → Arv Z h113 na k_na .long (3 : Int32) [.long m0, .long m1, .long eJ] (.long (0 : Int64)) → Fld Z h113 a "com/example/allocus/allocus/method/Population" "worst" "I" (.int z154_125) → Own.Go p e below s n0 (fun v h => v = some (.int (0 : Int32)) ∧ Keep h0 h [a, x2, oa, na] ∧ Fld Z h a "com/example/allocus/allocus/method/Population" "plans" "[[I" (.ref pl) ∧ Fld Z h a "com/example/allocus/allocus/method/Population" "best" "I" (.int be) ∧ Arv Z h x2 c_pl .int (1 : Int32) [.int y0] (.int (0 : Int32))) 0 0 (T113.setTop (mkF m 154 #[.val (.ref a), .val (.ref si), .val (.double dv), .second, .val (.int (0 : Int32)), .val (.int (2 : Int32)), .val (.int (2 : Int32))] [])) by
    refine Own.dcmpF X80 (pc' := 148) d6_104 d6_105 (by decide) n_dv n_bz_z154_76 (fun (h104 : Own.dz bz_z154_76 < Own.dz dv) => ?_) (fun (h104 : ¬ (Own.dz bz_z154_76 < Own.dz dv)) => ?_)
    · refine Own.aloadN X80 d6_148 rfl rfl ?_
      refine Own.iload X80 d6_149 rfl ?_
      refine Own.putF_ X80 d6_151 (host := "") (Or.inl (Own.wd hw 37 rfl)) Via.refl F75 F65 (Or.inl (Own.wd hw 38 rfl)) (Own.wd hw 2 rfl) (ty := .int) (by decide) rfl rfl fq0 fun T81 h81 X81 W81 => ?_
      have F82 := F65.wr W81
      have F83 := F66.wr W81 (Or.inl (List.mem_of_getElem? (i := 0) rfl))
      have F84 := F67.other W81 (Or.inr (slot_ne (Or.inr (Own.wd hw 13 rfl)) (Or.inl (Own.wd hw 38 rfl)) (by decide) (t := (.array (.array .int))) (t' := .int) (by decide) (by decide)))
      have F85 := F68.other W81 (Or.inr (slot_ne (Or.inr (Own.wd hw 16 rfl)) (Or.inl (Own.wd hw 38 rfl)) (by decide) (t := (.array .double)) (t' := .int) (by decide) (by decide)))
      have F86 := F69.other W81 (Or.inr (slot_ne (Or.inr (Own.wd hw 19 rfl)) (Or.inl (Own.wd hw 38 rfl)) (by decide) (t := (.array .long)) (t' := .int) (by decide) (by decide)))
      have F87 := F70.other W81 (Or.inr (slot_ne (Or.inl (Own.wd hw 26 rfl)) (Or.inl (Own.wd hw 38 rfl)) (by decide) (t := .int) (t' := .int) (by decide) (by decide)))
      have F88 := F71.other W81 (Or.inr (slot_ne (Or.inl (Own.wd hw 40 rfl)) (Or.inl (Own.wd hw 38 rfl)) (by decide) (t := .int) (t' := .int) (by decide) (by decide)))
      have F89 := F72.other W81 (Ne.symm nq5)
      have F90 := F73.other W81 (Ne.symm nq1)
      have F91 := F74.other W81 (Ne.symm nq2)
      have F92 : Fld Z h81 a "com/example/allocus/allocus/method/Population" "worst" "I" (.int (2 : Int32)) := Fld.same W81 F75
      have Z93 : n0 ≤ h81.size := by rw [W81.size]; exact Z64
      exact J104_113 _ _ _ (if_pos h104).symm (X81.more (by decide) (by decide)) Z93 F82 F83 F84 F85 F86 F87 F88 F89 F90 F91 F92
    · refine Own.aloadN X80 d6_108 rfl rfl ?_
      refine Own.getF_ X80 d6_109 (host := "") (Or.inl (Own.wd hw 15 rfl)) Via.refl F68 fun T94 X94 => ?_
      clear X80
      refine Own.iload X94 d6_112 rfl ?_
      refine Own.daload_ X94 d6_114 F73 (by decide) rfl ?_
      refine Own.aloadN X94 d6_115 rfl rfl ?_
      refine Own.getF_ X94 d6_116 (host := "") (Or.inl (Own.wd hw 15 rfl)) Via.refl F68 fun T95 X95 => ?_
      clear X94
      refine Own.aloadN X95 d6_119 rfl rfl ?_
      refine Own.getF_ X95 d6_120 (host := "") (Or.inl (Own.wd hw 37 rfl)) Via.refl F75 fun T96 X96 => ?_
      clear X95
      refine Own.daload_ X96 d6_123 F73 hj_z154_76 hvb_z154_76 ?_
      refine Own.dcmpF X96 (pc' := 154) d6_124 d6_125 (by decide) n_dv n_bz_z154_76 (fun (h124 : ¬ (Own.dz dv = Own.dz bz_z154_76)) => ?_) (fun h124' => ?_)
      · exact J104_113 _ _ _ ((if_neg h104).trans (if_neg h124)).symm (X96.more (by decide) (by decide)) Z64 F65 F66 F67 F68 F69 F70 F71 F72 F73 F74 F75
      · have h124 : Own.dz dv = Own.dz bz_z154_76 := Classical.not_not.mp h124'
        refine Own.aloadN X96 d6_128 rfl rfl ?_
        refine Own.getF_ X96 d6_129 (host := "") (Or.inl (Own.wd hw 18 rfl)) Via.refl F69 fun T97 X97 => ?_
        clear X96
        refine Own.iload X97 d6_132 rfl ?_
        refine Own.laload_ X97 d6_134 F74 (by decide) rfl ?_
        refine Own.aloadN X97 d6_135 rfl rfl ?_
        refine Own.getF_ X97 d6_136 (host := "") (Or.inl (Own.wd hw 18 rfl)) Via.refl F69 fun T98 X98 => ?_
        clear X97
        refine Own.aloadN X98 d6_139 rfl rfl ?_
        refine Own.getF_ X98 d6_140 (host := "") (Or.inl (Own.wd hw 37 rfl)) Via.refl F75 fun T99 X99 => ?_
        clear X98
        refine Own.laload_ X99 d6_143 F74 hj_z154_76 hvm_z154_76 ?_
        refine Own.lcmpF X99 (pc' := 154) d6_144 d6_145 (by decide) (fun (h144 : mz_z154_76.toInt ≤ eJ.toInt) => ?_) (fun (h144 : ¬ (mz_z154_76.toInt ≤ eJ.toInt)) => ?_)
        · exact J104_113 _ _ _ (((if_neg h104).trans (if_pos h124)).trans (if_pos h144)).symm (X99.more (by decide) (by decide)) Z64 F65 F66 F67 F68 F69 F70 F71 F72 F73 F74 F75
        · refine Own.aloadN X99 d6_148 rfl rfl ?_
          refine Own.iload X99 d6_149 rfl ?_
          refine Own.putF_ X99 d6_151 (host := "") (Or.inl (Own.wd hw 37 rfl)) Via.refl F75 F65 (Or.inl (Own.wd hw 38 rfl)) (Own.wd hw 2 rfl) (ty := .int) (by decide) rfl rfl fq0 fun T100 h100 X100 W100 => ?_
          have F101 := F65.wr W100
          have F102 := F66.wr W100 (Or.inl (List.mem_of_getElem? (i := 0) rfl))
          have F103 := F67.other W100 (Or.inr (slot_ne (Or.inr (Own.wd hw 13 rfl)) (Or.inl (Own.wd hw 38 rfl)) (by decide) (t := (.array (.array .int))) (t' := .int) (by decide) (by decide)))
          have F104 := F68.other W100 (Or.inr (slot_ne (Or.inr (Own.wd hw 16 rfl)) (Or.inl (Own.wd hw 38 rfl)) (by decide) (t := (.array .double)) (t' := .int) (by decide) (by decide)))
          have F105 := F69.other W100 (Or.inr (slot_ne (Or.inr (Own.wd hw 19 rfl)) (Or.inl (Own.wd hw 38 rfl)) (by decide) (t := (.array .long)) (t' := .int) (by decide) (by decide)))
          have F106 := F70.other W100 (Or.inr (slot_ne (Or.inl (Own.wd hw 26 rfl)) (Or.inl (Own.wd hw 38 rfl)) (by decide) (t := .int) (t' := .int) (by decide) (by decide)))
          have F107 := F71.other W100 (Or.inr (slot_ne (Or.inl (Own.wd hw 40 rfl)) (Or.inl (Own.wd hw 38 rfl)) (by decide) (t := .int) (t' := .int) (by decide) (by decide)))
          have F108 := F72.other W100 (Ne.symm nq5)
          have F109 := F73.other W100 (Ne.symm nq1)
          have F110 := F74.other W100 (Ne.symm nq2)
          have F111 : Fld Z h100 a "com/example/allocus/allocus/method/Population" "worst" "I" (.int (2 : Int32)) := Fld.same W100 F75
          have Z112 : n0 ≤ h100.size := by rw [W100.size]; exact Z64
          exact J104_113 _ _ _ (((if_neg h104).trans (if_pos h124)).trans (if_neg h144)).symm (X100.more (by decide) (by decide)) Z112 F101 F102 F103 F104 F105 F106 F107 F108 F109 F110 F111
  intro T113 h113 z154_125 e_z154_125 X113 Z113 F114 F115 F116 F117 F118 F119 F120 F121 F122 F123 F124
  skip
  clear X80
  refine Own.iinc X113 d6_154 rfl (l' := #[.val (.ref a), .val (.ref si), .val (.double dv), .second, .val (.int (0 : Int32)), .val (.int (2 : Int32)), .val (.int (3 : Int32))]) rfl ?_
  refine Own.goto_ X113 (pc' := 79) d6_157 (by decide) ?_
  refine Own.iload X113 d6_79 rfl ?_
  refine Own.aloadN X113 d6_81 rfl rfl ?_
  refine Own.getF_ X113 d6_82 (host := "") (Or.inl (Own.wd hw 25 rfl)) Via.refl F119 fun T126 X126 => ?_
  clear X113
  refine Own.icmp_ X126 (pc' := 160) d6_85 (by decide) (fun _ => ?_) (fun q => absurd (show (3 : Int) ≤ (3 : Int) from by decide) q)
  refine Own.iload X126 d6_160 rfl ?_
  exact Own.retB X126 d6_162 (by decide) ⟨rfl, F115, F116, F120, F121⟩ (by decide) (by decide)
theorem ef_6_2R (m : MethodId) (x0 : Addr) (x1 : Addr) (x2 : UInt64) : entryFrame m #[.ref x0, .ref x1, .double x2] 7 = mkF m 0 #[.val (.ref x0), .val (.ref x1), .val (.double x2), .second, .unset, .unset, .unset] [] := by first | (simp [entryFrame, mkF, argsToLocals, Value.category, maxLocals]; done) | rfl
set_option maxRecDepth 65536 in
set_option maxHeartbeats 40000000 in
theorem rm6_2R (l : Launch) (Z : State) (a0 : Array Value) (hw : ∀ d ∈ tables_1, d.before a0 Z = true) (a : Addr) (si : Addr) (dv : UInt64) (oa : Addr) (k_oa : ClassId) (b0 : UInt64) (b1 : UInt64) (b2 : UInt64) (h0 : Heap) (n0 : Nat) (Z0 : n0 ≤ h0.size) (fc0 : Fld Z h0 a "com/example/allocus/allocus/method/Population" "objectives" "[D" (.ref oa)) (fc1 : Fld Z h0 a "com/example/allocus/allocus/method/Population" "worst" "I" (.int (2 : Int32))) (fc2 : Arv Z h0 oa k_oa .double (3 : Int32) [.double b0, .double b1, .double b2] (.double 0)) (n_dv : NoNaN64 dv) (n_b2 : NoNaN64 b2) (cw : Own.dz b2 ≤ Own.dz dv) :
    Own.Con l Z mn_11 [] prog_48_method_6_code 7 (some .boolean) ({ frames := 0, cells := 0, slots := 0, locals := 0 } : Room) #[.ref a, .ref si, .double dv] h0 n0 (fun v h => v = some (.int (0 : Int32)) ∧ h0 = h) := by
  refine Own.enter (own := "com/example/allocus/allocus/method/Population") (nm := "offer") (plainFor_of_name pn_com_example_allocus_allocus_method_Population) rfl rfl (fun m => ef_6_2R m a si dv) fun p e s m below meth c T X => ?_
  refine Own.dloadN X d6_0 rfl ?_
  refine Own.aloadN X d6_1 rfl rfl ?_
  refine Own.getF_ X d6_2 (host := "") (Or.inl (Own.wd hw 15 rfl)) Via.refl fc0 fun T1 X1 => ?_
  clear X
  refine Own.aloadN X1 d6_5 rfl rfl ?_
  refine Own.getF_ X1 d6_6 (host := "") (Or.inl (Own.wd hw 37 rfl)) Via.refl fc1 fun T2 X2 => ?_
  clear X1
  refine Own.daload_ X2 d6_9 fc2 (by decide) rfl ?_
  refine Own.dcmpF X2 (pc' := 23) d6_10 d6_11 (by decide) n_dv n_b2 (fun _ => ?_) (fun q => absurd (show Own.dz b2 ≤ Own.dz dv from by omega) q)
  refine Own.iconst X2 (v := 0) d6_23 rfl ?_
  exact Own.retB X2 d6_24 (by decide) ⟨rfl, rfl⟩ (by decide) (by decide)
set_option maxRecDepth 65536 in
set_option maxHeartbeats 40000000 in
theorem tl_00 (l : Launch) (Z : State) (a0 : Array Value) (hw : ∀ d ∈ tables_1, d.before a0 Z = true) {p : Program} {e : Env} {s : State} {m : MethodId} {below : List Frame} {meth : Method} {c : Code} {T : State} {h0 : Heap} {n0 : Nat} {i0 i1 i2 i3 i4 : Int32} (qn qd qm : Int32) (q0 q1 q2 q3 : Addr) {pop : Addr} (pl x0 x1 x2 : Addr) (k_pl c_pl : ClassId) (X : Own.St p l e room_1 s m #[.int i0, .int i1, .int i2, .int i3, .int i4] below meth c Z code "com/example/allocus/allocus/method/PopulationBestPinLaw" "law" maxLocals ret n0 T h0 36 120) (Z0 : n0 ≤ h0.size) (fc0 : Exa Z h0 pop "com/example/allocus/allocus/method/Population") (fc1 : Fld Z h0 pop "com/example/allocus/allocus/method/Population" "plans" "[[I" (.ref pl)) (fc2 : Fld Z h0 pop "com/example/allocus/allocus/method/Population" "best" "I" (.int (0 : Int32))) (fc3 : Arv Z h0 pl k_pl (.array .int) (3 : Int32) [.ref x0, .ref x1, .ref x2] (.null)) (fc4 : Arv Z h0 x0 c_pl .int (1 : Int32) [.int (0 : Int32)] (.int (0 : Int32))) (fc5 : Exa Z h0 x0 "[I") :
    Own.Go p e below s n0 (fun v _ => v = some (.int 1)) 40 128 (T.setTop (mkF m 182 #[.val (.int i0), .val (.int i1), .val (.int i2), .val (.int i3), .val (.int i4), .val (.int qn), .val (.int qd), .val (.ref q0), .val (.ref q1), .val (.ref q2), .val (.ref q3), .val (.ref pop), .val (.int (0 : Int32)), .val (.int qm), .unset, .unset] [])) := by
  refine Own.aload X at_182 rfl rfl ?_
  refine Own.callV_ (y := mn_4) (z := mn_4) (a := pop) X at_184 (Own.wd hw 41 rfl) (Own.wd hw 42 rfl) (Own.wd hw 44 rfl) (Own.wd hw 43 rfl) rfl (Own.wd hw 3 rfl) (Own.wd hw 45 rfl) (by decide) fc0 (rm5_0 l Z a0 hw pop pl x0 x1 x2 k_pl c_pl (0 : Int32) h0 n0 Z0 fc1 fc2 fc3 fc4 fc5 ) (lenOf pd_14 rfl) rfl (argsL := []) (rest := []) rfl (W := 0) (Nat.le_of_eq rfl) (by decide) (by decide) (by decide) (by decide) fun T1 h1 v1 X1 q1 => ?_
  obtain ⟨cl_184_1, rfl, K1, B1_0, G1_0⟩ := q1
  have F2 := fc0.keep K1
  have F3 := fc1.keep K1 nin0
  have F4 := fc2.keep K1 nin0
  have F5 := fc3.keep K1 nin0
  have F6 := fc4.keep K1 nin0
  have F7 := fc5.keep K1
  have Z8 : n0 ≤ h1.size := Nat.le_trans Z0 K1.1
  have ne9 : pop ≠ cl_184_1 := Nat.ne_of_lt (Nat.lt_of_lt_of_le fc0.lt B1_0)
  have ne10 : pl ≠ cl_184_1 := Nat.ne_of_lt (Nat.lt_of_lt_of_le fc3.lt B1_0)
  have ne11 : x0 ≠ cl_184_1 := Nat.ne_of_lt (Nat.lt_of_lt_of_le fc4.lt B1_0)
  have fr12 : n0 ≤ cl_184_1 := Nat.le_trans Z0 B1_0
  show Own.Go p e below s n0 _ _ _ (T1.setTop (mkF m 187 _ [.ref cl_184_1]))
  clear X fc0 fc1 fc2 fc3 fc4 fc5
  refine Own.astore X1 at_187 rfl (l' := #[.val (.int i0), .val (.int i1), .val (.int i2), .val (.int i3), .val (.int i4), .val (.int qn), .val (.int qd), .val (.ref q0), .val (.ref q1), .val (.ref q2), .val (.ref q3), .val (.ref pop), .val (.int (0 : Int32)), .val (.int qm), .val (.ref cl_184_1), .unset]) rfl ?_
  refine Own.aload X1 at_189 rfl rfl ?_
  refine Own.alen_ X1 at_191 G1_0 ?_
  refine Own.iconst X1 (v := 1) at_192 rfl ?_
  refine Own.icmp_ X1 (pc' := 205) at_193 (by decide) (fun q => absurd (show ¬ ((1 : Int) = (1 : Int)) from q) (show ¬ (¬ ((1 : Int) = (1 : Int))) from fun z => z (by decide))) (fun _ => ?_)
  refine Own.aload X1 at_196 rfl rfl ?_
  refine Own.iconst X1 (v := 0) at_198 rfl ?_
  refine Own.iaload_ X1 at_199 G1_0 (by decide) rfl ?_
  refine Own.iload X1 at_200 rfl ?_
  refine Own.icmp_ X1 (pc' := 207) at_202 (by decide) (fun _ => ?_) (fun q => absurd (show (0 : Int) = (0 : Int) from by decide) q)
  refine Own.aload X1 at_207 rfl rfl ?_
  refine Own.iconst X1 (v := 0) at_209 rfl ?_
  refine Own.iload X1 at_210 rfl ?_
  refine Own.bipush X1 (v := 7) at_212 rfl ?_
  refine Own.iadd X1 at_214 ?_
  show Own.Go p e below s n0 _ _ _ (T1.setTop (mkF m 215 _ [.int (7 : Int32), .int (0 : Int32), .ref cl_184_1]))
  refine Own.iastore_ X1 (i := 0) at_215 G1_0 (by decide) rfl (Nat.le_of_ble_eq_true rfl) fr12 fun T13 h13 X13 W13 V13 => ?_
  have F14 := F2.wr W13
  have F15 := F3.other W13 (Or.inl ne9)
  have F16 := F4.other W13 (Or.inl ne9)
  have F17 := F5.other W13 ne10
  have F18 := F6.other W13 ne11
  have F19 := F7.wr W13
  have Z20 : n0 ≤ h13.size := by rw [W13.size]; exact Z8
  have V21 : Arv Z h13 cl_184_1 c_pl .int (1 : Int32) [.int (7 : Int32)] (.int (0 : Int32)) := V13
  clear F2 F3 F4 F5 F6 F7 G1_0 X1
  refine Own.aload X13 at_216 rfl rfl ?_
  refine Own.callV_ (y := mn_4) (z := mn_4) (a := pop) X13 at_218 (Own.wd hw 41 rfl) (Own.wd hw 42 rfl) (Own.wd hw 44 rfl) (Own.wd hw 43 rfl) rfl (Own.wd hw 3 rfl) (Own.wd hw 45 rfl) (by decide) F14 (rm5_0 l Z a0 hw pop pl x0 x1 x2 k_pl c_pl (0 : Int32) h13 n0 Z20 F15 F16 F17 F18 F19 ) (lenOf pd_14 rfl) rfl (argsL := []) (rest := []) rfl (W := 0) (Nat.le_of_eq rfl) (by decide) (by decide) (by decide) (by decide) fun T22 h22 v22 X22 q22 => ?_
  obtain ⟨cl_218_22, rfl, K22, B22_0, G22_0⟩ := q22
  have F23 := F14.keep K22
  have F24 := F15.keep K22 nin0
  have F25 := F16.keep K22 nin0
  have F26 := F17.keep K22 nin0
  have F27 := F18.keep K22 nin0
  have F28 := F19.keep K22
  have F29 := V21.keep K22 nin0
  have Z30 : n0 ≤ h22.size := Nat.le_trans Z20 K22.1
  have ne31 : pop ≠ cl_218_22 := Nat.ne_of_lt (Nat.lt_of_lt_of_le F14.lt B22_0)
  have ne32 : pl ≠ cl_218_22 := Nat.ne_of_lt (Nat.lt_of_lt_of_le F17.lt B22_0)
  have ne33 : x0 ≠ cl_218_22 := Nat.ne_of_lt (Nat.lt_of_lt_of_le F18.lt B22_0)
  have ne34 : cl_184_1 ≠ cl_218_22 := Nat.ne_of_lt (Nat.lt_of_lt_of_le V21.lt B22_0)
  have fr35 : n0 ≤ cl_218_22 := Nat.le_trans Z20 B22_0
  show Own.Go p e below s n0 _ _ _ (T22.setTop (mkF m 221 _ [.ref cl_218_22]))
  clear F14 F15 F16 F17 F18 F19 V21 X13
  refine Own.astore X22 at_221 rfl (l' := #[.val (.int i0), .val (.int i1), .val (.int i2), .val (.int i3), .val (.int i4), .val (.int qn), .val (.int qd), .val (.ref q0), .val (.ref q1), .val (.ref q2), .val (.ref q3), .val (.ref pop), .val (.int (0 : Int32)), .val (.int qm), .val (.ref cl_184_1), .val (.ref cl_218_22)]) rfl ?_
  refine Own.aload X22 at_223 rfl rfl ?_
  refine Own.aload X22 at_225 rfl rfl ?_
  refine Own.acmp_ X22 (pc' := 230) (same := false) at_227 rfl rfl (decide_eq_false fun q => (Ne.symm ne34) (Value.ref.inj q)) (by decide) (by decide) ?_
  refine Own.aload X22 at_230 rfl rfl ?_
  refine Own.alen_ X22 at_232 G22_0 ?_
  refine Own.iconst X22 (v := 1) at_233 rfl ?_
  refine Own.icmp_ X22 (pc' := 250) at_234 (by decide) (fun q => absurd (show ¬ ((1 : Int) = (1 : Int)) from q) (show ¬ (¬ ((1 : Int) = (1 : Int))) from fun z => z (by decide))) (fun _ => ?_)
  refine Own.aload X22 at_237 rfl rfl ?_
  refine Own.iconst X22 (v := 0) at_239 rfl ?_
  refine Own.iaload_ X22 at_240 G22_0 (by decide) rfl ?_
  refine Own.iload X22 at_241 rfl ?_
  refine Own.icmp_ X22 (pc' := 250) at_243 (by decide) (fun q => absurd (show ¬ ((0 : Int) = (0 : Int)) from q) (show ¬ (¬ ((0 : Int) = (0 : Int))) from fun z => z (by decide))) (fun _ => ?_)
  refine Own.iconst X22 (v := 1) at_246 rfl ?_
  refine Own.goto_ X22 (pc' := 251) at_247 (by decide) ?_
  exact Own.retB X22 at_251 (by decide) rfl (by decide) (by decide)
set_option maxRecDepth 65536 in
set_option maxHeartbeats 40000000 in
theorem tl_03 (l : Launch) (Z : State) (a0 : Array Value) (hw : ∀ d ∈ tables_1, d.before a0 Z = true) {p : Program} {e : Env} {s : State} {m : MethodId} {below : List Frame} {meth : Method} {c : Code} {T : State} {h0 : Heap} {n0 : Nat} {i0 i1 i2 i3 i4 : Int32} (qn qd qm : Int32) (q0 q1 q2 q3 : Addr) {pop : Addr} (pl x0 x1 x2 : Addr) (k_pl c_pl : ClassId) (X : Own.St p l e room_1 s m #[.int i0, .int i1, .int i2, .int i3, .int i4] below meth c Z code "com/example/allocus/allocus/method/PopulationBestPinLaw" "law" maxLocals ret n0 T h0 36 120) (Z0 : n0 ≤ h0.size) (fc0 : Exa Z h0 pop "com/example/allocus/allocus/method/Population") (fc1 : Fld Z h0 pop "com/example/allocus/allocus/method/Population" "plans" "[[I" (.ref pl)) (fc2 : Fld Z h0 pop "com/example/allocus/allocus/method/Population" "best" "I" (.int (0 : Int32))) (fc3 : Arv Z h0 pl k_pl (.array .int) (3 : Int32) [.ref x0, .ref x1, .ref x2] (.null)) (fc4 : Arv Z h0 x0 c_pl .int (1 : Int32) [.int (3 : Int32)] (.int (0 : Int32))) (fc5 : Exa Z h0 x0 "[I") :
    Own.Go p e below s n0 (fun v _ => v = some (.int 1)) 40 128 (T.setTop (mkF m 182 #[.val (.int i0), .val (.int i1), .val (.int i2), .val (.int i3), .val (.int i4), .val (.int qn), .val (.int qd), .val (.ref q0), .val (.ref q1), .val (.ref q2), .val (.ref q3), .val (.ref pop), .val (.int (3 : Int32)), .val (.int qm), .unset, .unset] [])) := by
  refine Own.aload X at_182 rfl rfl ?_
  refine Own.callV_ (y := mn_4) (z := mn_4) (a := pop) X at_184 (Own.wd hw 41 rfl) (Own.wd hw 42 rfl) (Own.wd hw 44 rfl) (Own.wd hw 43 rfl) rfl (Own.wd hw 3 rfl) (Own.wd hw 45 rfl) (by decide) fc0 (rm5_0 l Z a0 hw pop pl x0 x1 x2 k_pl c_pl (3 : Int32) h0 n0 Z0 fc1 fc2 fc3 fc4 fc5 ) (lenOf pd_14 rfl) rfl (argsL := []) (rest := []) rfl (W := 0) (Nat.le_of_eq rfl) (by decide) (by decide) (by decide) (by decide) fun T1 h1 v1 X1 q1 => ?_
  obtain ⟨cl_184_1, rfl, K1, B1_0, G1_0⟩ := q1
  have F2 := fc0.keep K1
  have F3 := fc1.keep K1 nin0
  have F4 := fc2.keep K1 nin0
  have F5 := fc3.keep K1 nin0
  have F6 := fc4.keep K1 nin0
  have F7 := fc5.keep K1
  have Z8 : n0 ≤ h1.size := Nat.le_trans Z0 K1.1
  have ne9 : pop ≠ cl_184_1 := Nat.ne_of_lt (Nat.lt_of_lt_of_le fc0.lt B1_0)
  have ne10 : pl ≠ cl_184_1 := Nat.ne_of_lt (Nat.lt_of_lt_of_le fc3.lt B1_0)
  have ne11 : x0 ≠ cl_184_1 := Nat.ne_of_lt (Nat.lt_of_lt_of_le fc4.lt B1_0)
  have fr12 : n0 ≤ cl_184_1 := Nat.le_trans Z0 B1_0
  show Own.Go p e below s n0 _ _ _ (T1.setTop (mkF m 187 _ [.ref cl_184_1]))
  clear X fc0 fc1 fc2 fc3 fc4 fc5
  refine Own.astore X1 at_187 rfl (l' := #[.val (.int i0), .val (.int i1), .val (.int i2), .val (.int i3), .val (.int i4), .val (.int qn), .val (.int qd), .val (.ref q0), .val (.ref q1), .val (.ref q2), .val (.ref q3), .val (.ref pop), .val (.int (3 : Int32)), .val (.int qm), .val (.ref cl_184_1), .unset]) rfl ?_
  refine Own.aload X1 at_189 rfl rfl ?_
  refine Own.alen_ X1 at_191 G1_0 ?_
  refine Own.iconst X1 (v := 1) at_192 rfl ?_
  refine Own.icmp_ X1 (pc' := 205) at_193 (by decide) (fun q => absurd (show ¬ ((1 : Int) = (1 : Int)) from q) (show ¬ (¬ ((1 : Int) = (1 : Int))) from fun z => z (by decide))) (fun _ => ?_)
  refine Own.aload X1 at_196 rfl rfl ?_
  refine Own.iconst X1 (v := 0) at_198 rfl ?_
  refine Own.iaload_ X1 at_199 G1_0 (by decide) rfl ?_
  refine Own.iload X1 at_200 rfl ?_
  refine Own.icmp_ X1 (pc' := 207) at_202 (by decide) (fun _ => ?_) (fun q => absurd (show (3 : Int) = (3 : Int) from by decide) q)
  refine Own.aload X1 at_207 rfl rfl ?_
  refine Own.iconst X1 (v := 0) at_209 rfl ?_
  refine Own.iload X1 at_210 rfl ?_
  refine Own.bipush X1 (v := 7) at_212 rfl ?_
  refine Own.iadd X1 at_214 ?_
  show Own.Go p e below s n0 _ _ _ (T1.setTop (mkF m 215 _ [.int (10 : Int32), .int (0 : Int32), .ref cl_184_1]))
  refine Own.iastore_ X1 (i := 0) at_215 G1_0 (by decide) rfl (Nat.le_of_ble_eq_true rfl) fr12 fun T13 h13 X13 W13 V13 => ?_
  have F14 := F2.wr W13
  have F15 := F3.other W13 (Or.inl ne9)
  have F16 := F4.other W13 (Or.inl ne9)
  have F17 := F5.other W13 ne10
  have F18 := F6.other W13 ne11
  have F19 := F7.wr W13
  have Z20 : n0 ≤ h13.size := by rw [W13.size]; exact Z8
  have V21 : Arv Z h13 cl_184_1 c_pl .int (1 : Int32) [.int (10 : Int32)] (.int (0 : Int32)) := V13
  clear F2 F3 F4 F5 F6 F7 G1_0 X1
  refine Own.aload X13 at_216 rfl rfl ?_
  refine Own.callV_ (y := mn_4) (z := mn_4) (a := pop) X13 at_218 (Own.wd hw 41 rfl) (Own.wd hw 42 rfl) (Own.wd hw 44 rfl) (Own.wd hw 43 rfl) rfl (Own.wd hw 3 rfl) (Own.wd hw 45 rfl) (by decide) F14 (rm5_0 l Z a0 hw pop pl x0 x1 x2 k_pl c_pl (3 : Int32) h13 n0 Z20 F15 F16 F17 F18 F19 ) (lenOf pd_14 rfl) rfl (argsL := []) (rest := []) rfl (W := 0) (Nat.le_of_eq rfl) (by decide) (by decide) (by decide) (by decide) fun T22 h22 v22 X22 q22 => ?_
  obtain ⟨cl_218_22, rfl, K22, B22_0, G22_0⟩ := q22
  have F23 := F14.keep K22
  have F24 := F15.keep K22 nin0
  have F25 := F16.keep K22 nin0
  have F26 := F17.keep K22 nin0
  have F27 := F18.keep K22 nin0
  have F28 := F19.keep K22
  have F29 := V21.keep K22 nin0
  have Z30 : n0 ≤ h22.size := Nat.le_trans Z20 K22.1
  have ne31 : pop ≠ cl_218_22 := Nat.ne_of_lt (Nat.lt_of_lt_of_le F14.lt B22_0)
  have ne32 : pl ≠ cl_218_22 := Nat.ne_of_lt (Nat.lt_of_lt_of_le F17.lt B22_0)
  have ne33 : x0 ≠ cl_218_22 := Nat.ne_of_lt (Nat.lt_of_lt_of_le F18.lt B22_0)
  have ne34 : cl_184_1 ≠ cl_218_22 := Nat.ne_of_lt (Nat.lt_of_lt_of_le V21.lt B22_0)
  have fr35 : n0 ≤ cl_218_22 := Nat.le_trans Z20 B22_0
  show Own.Go p e below s n0 _ _ _ (T22.setTop (mkF m 221 _ [.ref cl_218_22]))
  clear F14 F15 F16 F17 F18 F19 V21 X13
  refine Own.astore X22 at_221 rfl (l' := #[.val (.int i0), .val (.int i1), .val (.int i2), .val (.int i3), .val (.int i4), .val (.int qn), .val (.int qd), .val (.ref q0), .val (.ref q1), .val (.ref q2), .val (.ref q3), .val (.ref pop), .val (.int (3 : Int32)), .val (.int qm), .val (.ref cl_184_1), .val (.ref cl_218_22)]) rfl ?_
  refine Own.aload X22 at_223 rfl rfl ?_
  refine Own.aload X22 at_225 rfl rfl ?_
  refine Own.acmp_ X22 (pc' := 230) (same := false) at_227 rfl rfl (decide_eq_false fun q => (Ne.symm ne34) (Value.ref.inj q)) (by decide) (by decide) ?_
  refine Own.aload X22 at_230 rfl rfl ?_
  refine Own.alen_ X22 at_232 G22_0 ?_
  refine Own.iconst X22 (v := 1) at_233 rfl ?_
  refine Own.icmp_ X22 (pc' := 250) at_234 (by decide) (fun q => absurd (show ¬ ((1 : Int) = (1 : Int)) from q) (show ¬ (¬ ((1 : Int) = (1 : Int))) from fun z => z (by decide))) (fun _ => ?_)
  refine Own.aload X22 at_237 rfl rfl ?_
  refine Own.iconst X22 (v := 0) at_239 rfl ?_
  refine Own.iaload_ X22 at_240 G22_0 (by decide) rfl ?_
  refine Own.iload X22 at_241 rfl ?_
  refine Own.icmp_ X22 (pc' := 250) at_243 (by decide) (fun q => absurd (show ¬ ((3 : Int) = (3 : Int)) from q) (show ¬ (¬ ((3 : Int) = (3 : Int))) from fun z => z (by decide))) (fun _ => ?_)
  refine Own.iconst X22 (v := 1) at_246 rfl ?_
  refine Own.goto_ X22 (pc' := 251) at_247 (by decide) ?_
  exact Own.retB X22 at_251 (by decide) rfl (by decide) (by decide)
set_option maxRecDepth 65536 in
set_option maxHeartbeats 40000000 in
theorem tl_11 (l : Launch) (Z : State) (a0 : Array Value) (hw : ∀ d ∈ tables_1, d.before a0 Z = true) {p : Program} {e : Env} {s : State} {m : MethodId} {below : List Frame} {meth : Method} {c : Code} {T : State} {h0 : Heap} {n0 : Nat} {i0 i1 i2 i3 i4 : Int32} (qn qd qm : Int32) (q0 q1 q2 q3 : Addr) {pop : Addr} (pl x0 x1 x2 : Addr) (k_pl c_pl : ClassId) (X : Own.St p l e room_1 s m #[.int i0, .int i1, .int i2, .int i3, .int i4] below meth c Z code "com/example/allocus/allocus/method/PopulationBestPinLaw" "law" maxLocals ret n0 T h0 36 120) (Z0 : n0 ≤ h0.size) (fc0 : Exa Z h0 pop "com/example/allocus/allocus/method/Population") (fc1 : Fld Z h0 pop "com/example/allocus/allocus/method/Population" "plans" "[[I" (.ref pl)) (fc2 : Fld Z h0 pop "com/example/allocus/allocus/method/Population" "best" "I" (.int (1 : Int32))) (fc3 : Arv Z h0 pl k_pl (.array .int) (3 : Int32) [.ref x0, .ref x1, .ref x2] (.null)) (fc4 : Arv Z h0 x1 c_pl .int (1 : Int32) [.int (1 : Int32)] (.int (0 : Int32))) (fc5 : Exa Z h0 x1 "[I") :
    Own.Go p e below s n0 (fun v _ => v = some (.int 1)) 40 128 (T.setTop (mkF m 182 #[.val (.int i0), .val (.int i1), .val (.int i2), .val (.int i3), .val (.int i4), .val (.int qn), .val (.int qd), .val (.ref q0), .val (.ref q1), .val (.ref q2), .val (.ref q3), .val (.ref pop), .val (.int (1 : Int32)), .val (.int qm), .unset, .unset] [])) := by
  refine Own.aload X at_182 rfl rfl ?_
  refine Own.callV_ (y := mn_4) (z := mn_4) (a := pop) X at_184 (Own.wd hw 41 rfl) (Own.wd hw 42 rfl) (Own.wd hw 44 rfl) (Own.wd hw 43 rfl) rfl (Own.wd hw 3 rfl) (Own.wd hw 45 rfl) (by decide) fc0 (rm5_1 l Z a0 hw pop pl x0 x1 x2 k_pl c_pl (1 : Int32) h0 n0 Z0 fc1 fc2 fc3 fc4 fc5 ) (lenOf pd_14 rfl) rfl (argsL := []) (rest := []) rfl (W := 0) (Nat.le_of_eq rfl) (by decide) (by decide) (by decide) (by decide) fun T1 h1 v1 X1 q1 => ?_
  obtain ⟨cl_184_1, rfl, K1, B1_0, G1_0⟩ := q1
  have F2 := fc0.keep K1
  have F3 := fc1.keep K1 nin0
  have F4 := fc2.keep K1 nin0
  have F5 := fc3.keep K1 nin0
  have F6 := fc4.keep K1 nin0
  have F7 := fc5.keep K1
  have Z8 : n0 ≤ h1.size := Nat.le_trans Z0 K1.1
  have ne9 : pop ≠ cl_184_1 := Nat.ne_of_lt (Nat.lt_of_lt_of_le fc0.lt B1_0)
  have ne10 : pl ≠ cl_184_1 := Nat.ne_of_lt (Nat.lt_of_lt_of_le fc3.lt B1_0)
  have ne11 : x1 ≠ cl_184_1 := Nat.ne_of_lt (Nat.lt_of_lt_of_le fc4.lt B1_0)
  have fr12 : n0 ≤ cl_184_1 := Nat.le_trans Z0 B1_0
  show Own.Go p e below s n0 _ _ _ (T1.setTop (mkF m 187 _ [.ref cl_184_1]))
  clear X fc0 fc1 fc2 fc3 fc4 fc5
  refine Own.astore X1 at_187 rfl (l' := #[.val (.int i0), .val (.int i1), .val (.int i2), .val (.int i3), .val (.int i4), .val (.int qn), .val (.int qd), .val (.ref q0), .val (.ref q1), .val (.ref q2), .val (.ref q3), .val (.ref pop), .val (.int (1 : Int32)), .val (.int qm), .val (.ref cl_184_1), .unset]) rfl ?_
  refine Own.aload X1 at_189 rfl rfl ?_
  refine Own.alen_ X1 at_191 G1_0 ?_
  refine Own.iconst X1 (v := 1) at_192 rfl ?_
  refine Own.icmp_ X1 (pc' := 205) at_193 (by decide) (fun q => absurd (show ¬ ((1 : Int) = (1 : Int)) from q) (show ¬ (¬ ((1 : Int) = (1 : Int))) from fun z => z (by decide))) (fun _ => ?_)
  refine Own.aload X1 at_196 rfl rfl ?_
  refine Own.iconst X1 (v := 0) at_198 rfl ?_
  refine Own.iaload_ X1 at_199 G1_0 (by decide) rfl ?_
  refine Own.iload X1 at_200 rfl ?_
  refine Own.icmp_ X1 (pc' := 207) at_202 (by decide) (fun _ => ?_) (fun q => absurd (show (1 : Int) = (1 : Int) from by decide) q)
  refine Own.aload X1 at_207 rfl rfl ?_
  refine Own.iconst X1 (v := 0) at_209 rfl ?_
  refine Own.iload X1 at_210 rfl ?_
  refine Own.bipush X1 (v := 7) at_212 rfl ?_
  refine Own.iadd X1 at_214 ?_
  show Own.Go p e below s n0 _ _ _ (T1.setTop (mkF m 215 _ [.int (8 : Int32), .int (0 : Int32), .ref cl_184_1]))
  refine Own.iastore_ X1 (i := 0) at_215 G1_0 (by decide) rfl (Nat.le_of_ble_eq_true rfl) fr12 fun T13 h13 X13 W13 V13 => ?_
  have F14 := F2.wr W13
  have F15 := F3.other W13 (Or.inl ne9)
  have F16 := F4.other W13 (Or.inl ne9)
  have F17 := F5.other W13 ne10
  have F18 := F6.other W13 ne11
  have F19 := F7.wr W13
  have Z20 : n0 ≤ h13.size := by rw [W13.size]; exact Z8
  have V21 : Arv Z h13 cl_184_1 c_pl .int (1 : Int32) [.int (8 : Int32)] (.int (0 : Int32)) := V13
  clear F2 F3 F4 F5 F6 F7 G1_0 X1
  refine Own.aload X13 at_216 rfl rfl ?_
  refine Own.callV_ (y := mn_4) (z := mn_4) (a := pop) X13 at_218 (Own.wd hw 41 rfl) (Own.wd hw 42 rfl) (Own.wd hw 44 rfl) (Own.wd hw 43 rfl) rfl (Own.wd hw 3 rfl) (Own.wd hw 45 rfl) (by decide) F14 (rm5_1 l Z a0 hw pop pl x0 x1 x2 k_pl c_pl (1 : Int32) h13 n0 Z20 F15 F16 F17 F18 F19 ) (lenOf pd_14 rfl) rfl (argsL := []) (rest := []) rfl (W := 0) (Nat.le_of_eq rfl) (by decide) (by decide) (by decide) (by decide) fun T22 h22 v22 X22 q22 => ?_
  obtain ⟨cl_218_22, rfl, K22, B22_0, G22_0⟩ := q22
  have F23 := F14.keep K22
  have F24 := F15.keep K22 nin0
  have F25 := F16.keep K22 nin0
  have F26 := F17.keep K22 nin0
  have F27 := F18.keep K22 nin0
  have F28 := F19.keep K22
  have F29 := V21.keep K22 nin0
  have Z30 : n0 ≤ h22.size := Nat.le_trans Z20 K22.1
  have ne31 : pop ≠ cl_218_22 := Nat.ne_of_lt (Nat.lt_of_lt_of_le F14.lt B22_0)
  have ne32 : pl ≠ cl_218_22 := Nat.ne_of_lt (Nat.lt_of_lt_of_le F17.lt B22_0)
  have ne33 : x1 ≠ cl_218_22 := Nat.ne_of_lt (Nat.lt_of_lt_of_le F18.lt B22_0)
  have ne34 : cl_184_1 ≠ cl_218_22 := Nat.ne_of_lt (Nat.lt_of_lt_of_le V21.lt B22_0)
  have fr35 : n0 ≤ cl_218_22 := Nat.le_trans Z20 B22_0
  show Own.Go p e below s n0 _ _ _ (T22.setTop (mkF m 221 _ [.ref cl_218_22]))
  clear F14 F15 F16 F17 F18 F19 V21 X13
  refine Own.astore X22 at_221 rfl (l' := #[.val (.int i0), .val (.int i1), .val (.int i2), .val (.int i3), .val (.int i4), .val (.int qn), .val (.int qd), .val (.ref q0), .val (.ref q1), .val (.ref q2), .val (.ref q3), .val (.ref pop), .val (.int (1 : Int32)), .val (.int qm), .val (.ref cl_184_1), .val (.ref cl_218_22)]) rfl ?_
  refine Own.aload X22 at_223 rfl rfl ?_
  refine Own.aload X22 at_225 rfl rfl ?_
  refine Own.acmp_ X22 (pc' := 230) (same := false) at_227 rfl rfl (decide_eq_false fun q => (Ne.symm ne34) (Value.ref.inj q)) (by decide) (by decide) ?_
  refine Own.aload X22 at_230 rfl rfl ?_
  refine Own.alen_ X22 at_232 G22_0 ?_
  refine Own.iconst X22 (v := 1) at_233 rfl ?_
  refine Own.icmp_ X22 (pc' := 250) at_234 (by decide) (fun q => absurd (show ¬ ((1 : Int) = (1 : Int)) from q) (show ¬ (¬ ((1 : Int) = (1 : Int))) from fun z => z (by decide))) (fun _ => ?_)
  refine Own.aload X22 at_237 rfl rfl ?_
  refine Own.iconst X22 (v := 0) at_239 rfl ?_
  refine Own.iaload_ X22 at_240 G22_0 (by decide) rfl ?_
  refine Own.iload X22 at_241 rfl ?_
  refine Own.icmp_ X22 (pc' := 250) at_243 (by decide) (fun q => absurd (show ¬ ((1 : Int) = (1 : Int)) from q) (show ¬ (¬ ((1 : Int) = (1 : Int))) from fun z => z (by decide))) (fun _ => ?_)
  refine Own.iconst X22 (v := 1) at_246 rfl ?_
  refine Own.goto_ X22 (pc' := 251) at_247 (by decide) ?_
  exact Own.retB X22 at_251 (by decide) rfl (by decide) (by decide)
set_option maxRecDepth 65536 in
set_option maxHeartbeats 40000000 in
theorem tl_13 (l : Launch) (Z : State) (a0 : Array Value) (hw : ∀ d ∈ tables_1, d.before a0 Z = true) {p : Program} {e : Env} {s : State} {m : MethodId} {below : List Frame} {meth : Method} {c : Code} {T : State} {h0 : Heap} {n0 : Nat} {i0 i1 i2 i3 i4 : Int32} (qn qd qm : Int32) (q0 q1 q2 q3 : Addr) {pop : Addr} (pl x0 x1 x2 : Addr) (k_pl c_pl : ClassId) (X : Own.St p l e room_1 s m #[.int i0, .int i1, .int i2, .int i3, .int i4] below meth c Z code "com/example/allocus/allocus/method/PopulationBestPinLaw" "law" maxLocals ret n0 T h0 36 120) (Z0 : n0 ≤ h0.size) (fc0 : Exa Z h0 pop "com/example/allocus/allocus/method/Population") (fc1 : Fld Z h0 pop "com/example/allocus/allocus/method/Population" "plans" "[[I" (.ref pl)) (fc2 : Fld Z h0 pop "com/example/allocus/allocus/method/Population" "best" "I" (.int (1 : Int32))) (fc3 : Arv Z h0 pl k_pl (.array .int) (3 : Int32) [.ref x0, .ref x1, .ref x2] (.null)) (fc4 : Arv Z h0 x1 c_pl .int (1 : Int32) [.int (3 : Int32)] (.int (0 : Int32))) (fc5 : Exa Z h0 x1 "[I") :
    Own.Go p e below s n0 (fun v _ => v = some (.int 1)) 40 128 (T.setTop (mkF m 182 #[.val (.int i0), .val (.int i1), .val (.int i2), .val (.int i3), .val (.int i4), .val (.int qn), .val (.int qd), .val (.ref q0), .val (.ref q1), .val (.ref q2), .val (.ref q3), .val (.ref pop), .val (.int (3 : Int32)), .val (.int qm), .unset, .unset] [])) := by
  refine Own.aload X at_182 rfl rfl ?_
  refine Own.callV_ (y := mn_4) (z := mn_4) (a := pop) X at_184 (Own.wd hw 41 rfl) (Own.wd hw 42 rfl) (Own.wd hw 44 rfl) (Own.wd hw 43 rfl) rfl (Own.wd hw 3 rfl) (Own.wd hw 45 rfl) (by decide) fc0 (rm5_1 l Z a0 hw pop pl x0 x1 x2 k_pl c_pl (3 : Int32) h0 n0 Z0 fc1 fc2 fc3 fc4 fc5 ) (lenOf pd_14 rfl) rfl (argsL := []) (rest := []) rfl (W := 0) (Nat.le_of_eq rfl) (by decide) (by decide) (by decide) (by decide) fun T1 h1 v1 X1 q1 => ?_
  obtain ⟨cl_184_1, rfl, K1, B1_0, G1_0⟩ := q1
  have F2 := fc0.keep K1
  have F3 := fc1.keep K1 nin0
  have F4 := fc2.keep K1 nin0
  have F5 := fc3.keep K1 nin0
  have F6 := fc4.keep K1 nin0
  have F7 := fc5.keep K1
  have Z8 : n0 ≤ h1.size := Nat.le_trans Z0 K1.1
  have ne9 : pop ≠ cl_184_1 := Nat.ne_of_lt (Nat.lt_of_lt_of_le fc0.lt B1_0)
  have ne10 : pl ≠ cl_184_1 := Nat.ne_of_lt (Nat.lt_of_lt_of_le fc3.lt B1_0)
  have ne11 : x1 ≠ cl_184_1 := Nat.ne_of_lt (Nat.lt_of_lt_of_le fc4.lt B1_0)
  have fr12 : n0 ≤ cl_184_1 := Nat.le_trans Z0 B1_0
  show Own.Go p e below s n0 _ _ _ (T1.setTop (mkF m 187 _ [.ref cl_184_1]))
  clear X fc0 fc1 fc2 fc3 fc4 fc5
  refine Own.astore X1 at_187 rfl (l' := #[.val (.int i0), .val (.int i1), .val (.int i2), .val (.int i3), .val (.int i4), .val (.int qn), .val (.int qd), .val (.ref q0), .val (.ref q1), .val (.ref q2), .val (.ref q3), .val (.ref pop), .val (.int (3 : Int32)), .val (.int qm), .val (.ref cl_184_1), .unset]) rfl ?_
  refine Own.aload X1 at_189 rfl rfl ?_
  refine Own.alen_ X1 at_191 G1_0 ?_
  refine Own.iconst X1 (v := 1) at_192 rfl ?_
  refine Own.icmp_ X1 (pc' := 205) at_193 (by decide) (fun q => absurd (show ¬ ((1 : Int) = (1 : Int)) from q) (show ¬ (¬ ((1 : Int) = (1 : Int))) from fun z => z (by decide))) (fun _ => ?_)
  refine Own.aload X1 at_196 rfl rfl ?_
  refine Own.iconst X1 (v := 0) at_198 rfl ?_
  refine Own.iaload_ X1 at_199 G1_0 (by decide) rfl ?_
  refine Own.iload X1 at_200 rfl ?_
  refine Own.icmp_ X1 (pc' := 207) at_202 (by decide) (fun _ => ?_) (fun q => absurd (show (3 : Int) = (3 : Int) from by decide) q)
  refine Own.aload X1 at_207 rfl rfl ?_
  refine Own.iconst X1 (v := 0) at_209 rfl ?_
  refine Own.iload X1 at_210 rfl ?_
  refine Own.bipush X1 (v := 7) at_212 rfl ?_
  refine Own.iadd X1 at_214 ?_
  show Own.Go p e below s n0 _ _ _ (T1.setTop (mkF m 215 _ [.int (10 : Int32), .int (0 : Int32), .ref cl_184_1]))
  refine Own.iastore_ X1 (i := 0) at_215 G1_0 (by decide) rfl (Nat.le_of_ble_eq_true rfl) fr12 fun T13 h13 X13 W13 V13 => ?_
  have F14 := F2.wr W13
  have F15 := F3.other W13 (Or.inl ne9)
  have F16 := F4.other W13 (Or.inl ne9)
  have F17 := F5.other W13 ne10
  have F18 := F6.other W13 ne11
  have F19 := F7.wr W13
  have Z20 : n0 ≤ h13.size := by rw [W13.size]; exact Z8
  have V21 : Arv Z h13 cl_184_1 c_pl .int (1 : Int32) [.int (10 : Int32)] (.int (0 : Int32)) := V13
  clear F2 F3 F4 F5 F6 F7 G1_0 X1
  refine Own.aload X13 at_216 rfl rfl ?_
  refine Own.callV_ (y := mn_4) (z := mn_4) (a := pop) X13 at_218 (Own.wd hw 41 rfl) (Own.wd hw 42 rfl) (Own.wd hw 44 rfl) (Own.wd hw 43 rfl) rfl (Own.wd hw 3 rfl) (Own.wd hw 45 rfl) (by decide) F14 (rm5_1 l Z a0 hw pop pl x0 x1 x2 k_pl c_pl (3 : Int32) h13 n0 Z20 F15 F16 F17 F18 F19 ) (lenOf pd_14 rfl) rfl (argsL := []) (rest := []) rfl (W := 0) (Nat.le_of_eq rfl) (by decide) (by decide) (by decide) (by decide) fun T22 h22 v22 X22 q22 => ?_
  obtain ⟨cl_218_22, rfl, K22, B22_0, G22_0⟩ := q22
  have F23 := F14.keep K22
  have F24 := F15.keep K22 nin0
  have F25 := F16.keep K22 nin0
  have F26 := F17.keep K22 nin0
  have F27 := F18.keep K22 nin0
  have F28 := F19.keep K22
  have F29 := V21.keep K22 nin0
  have Z30 : n0 ≤ h22.size := Nat.le_trans Z20 K22.1
  have ne31 : pop ≠ cl_218_22 := Nat.ne_of_lt (Nat.lt_of_lt_of_le F14.lt B22_0)
  have ne32 : pl ≠ cl_218_22 := Nat.ne_of_lt (Nat.lt_of_lt_of_le F17.lt B22_0)
  have ne33 : x1 ≠ cl_218_22 := Nat.ne_of_lt (Nat.lt_of_lt_of_le F18.lt B22_0)
  have ne34 : cl_184_1 ≠ cl_218_22 := Nat.ne_of_lt (Nat.lt_of_lt_of_le V21.lt B22_0)
  have fr35 : n0 ≤ cl_218_22 := Nat.le_trans Z20 B22_0
  show Own.Go p e below s n0 _ _ _ (T22.setTop (mkF m 221 _ [.ref cl_218_22]))
  clear F14 F15 F16 F17 F18 F19 V21 X13
  refine Own.astore X22 at_221 rfl (l' := #[.val (.int i0), .val (.int i1), .val (.int i2), .val (.int i3), .val (.int i4), .val (.int qn), .val (.int qd), .val (.ref q0), .val (.ref q1), .val (.ref q2), .val (.ref q3), .val (.ref pop), .val (.int (3 : Int32)), .val (.int qm), .val (.ref cl_184_1), .val (.ref cl_218_22)]) rfl ?_
  refine Own.aload X22 at_223 rfl rfl ?_
  refine Own.aload X22 at_225 rfl rfl ?_
  refine Own.acmp_ X22 (pc' := 230) (same := false) at_227 rfl rfl (decide_eq_false fun q => (Ne.symm ne34) (Value.ref.inj q)) (by decide) (by decide) ?_
  refine Own.aload X22 at_230 rfl rfl ?_
  refine Own.alen_ X22 at_232 G22_0 ?_
  refine Own.iconst X22 (v := 1) at_233 rfl ?_
  refine Own.icmp_ X22 (pc' := 250) at_234 (by decide) (fun q => absurd (show ¬ ((1 : Int) = (1 : Int)) from q) (show ¬ (¬ ((1 : Int) = (1 : Int))) from fun z => z (by decide))) (fun _ => ?_)
  refine Own.aload X22 at_237 rfl rfl ?_
  refine Own.iconst X22 (v := 0) at_239 rfl ?_
  refine Own.iaload_ X22 at_240 G22_0 (by decide) rfl ?_
  refine Own.iload X22 at_241 rfl ?_
  refine Own.icmp_ X22 (pc' := 250) at_243 (by decide) (fun q => absurd (show ¬ ((3 : Int) = (3 : Int)) from q) (show ¬ (¬ ((3 : Int) = (3 : Int))) from fun z => z (by decide))) (fun _ => ?_)
  refine Own.iconst X22 (v := 1) at_246 rfl ?_
  refine Own.goto_ X22 (pc' := 251) at_247 (by decide) ?_
  exact Own.retB X22 at_251 (by decide) rfl (by decide) (by decide)
set_option maxRecDepth 65536 in
set_option maxHeartbeats 40000000 in
theorem tl_22 (l : Launch) (Z : State) (a0 : Array Value) (hw : ∀ d ∈ tables_1, d.before a0 Z = true) {p : Program} {e : Env} {s : State} {m : MethodId} {below : List Frame} {meth : Method} {c : Code} {T : State} {h0 : Heap} {n0 : Nat} {i0 i1 i2 i3 i4 : Int32} (qn qd qm : Int32) (q0 q1 q2 q3 : Addr) {pop : Addr} (pl x0 x1 x2 : Addr) (k_pl c_pl : ClassId) (X : Own.St p l e room_1 s m #[.int i0, .int i1, .int i2, .int i3, .int i4] below meth c Z code "com/example/allocus/allocus/method/PopulationBestPinLaw" "law" maxLocals ret n0 T h0 36 120) (Z0 : n0 ≤ h0.size) (fc0 : Exa Z h0 pop "com/example/allocus/allocus/method/Population") (fc1 : Fld Z h0 pop "com/example/allocus/allocus/method/Population" "plans" "[[I" (.ref pl)) (fc2 : Fld Z h0 pop "com/example/allocus/allocus/method/Population" "best" "I" (.int (2 : Int32))) (fc3 : Arv Z h0 pl k_pl (.array .int) (3 : Int32) [.ref x0, .ref x1, .ref x2] (.null)) (fc4 : Arv Z h0 x2 c_pl .int (1 : Int32) [.int (2 : Int32)] (.int (0 : Int32))) (fc5 : Exa Z h0 x2 "[I") :
    Own.Go p e below s n0 (fun v _ => v = some (.int 1)) 40 128 (T.setTop (mkF m 182 #[.val (.int i0), .val (.int i1), .val (.int i2), .val (.int i3), .val (.int i4), .val (.int qn), .val (.int qd), .val (.ref q0), .val (.ref q1), .val (.ref q2), .val (.ref q3), .val (.ref pop), .val (.int (2 : Int32)), .val (.int qm), .unset, .unset] [])) := by
  refine Own.aload X at_182 rfl rfl ?_
  refine Own.callV_ (y := mn_4) (z := mn_4) (a := pop) X at_184 (Own.wd hw 41 rfl) (Own.wd hw 42 rfl) (Own.wd hw 44 rfl) (Own.wd hw 43 rfl) rfl (Own.wd hw 3 rfl) (Own.wd hw 45 rfl) (by decide) fc0 (rm5_2 l Z a0 hw pop pl x0 x1 x2 k_pl c_pl (2 : Int32) h0 n0 Z0 fc1 fc2 fc3 fc4 fc5 ) (lenOf pd_14 rfl) rfl (argsL := []) (rest := []) rfl (W := 0) (Nat.le_of_eq rfl) (by decide) (by decide) (by decide) (by decide) fun T1 h1 v1 X1 q1 => ?_
  obtain ⟨cl_184_1, rfl, K1, B1_0, G1_0⟩ := q1
  have F2 := fc0.keep K1
  have F3 := fc1.keep K1 nin0
  have F4 := fc2.keep K1 nin0
  have F5 := fc3.keep K1 nin0
  have F6 := fc4.keep K1 nin0
  have F7 := fc5.keep K1
  have Z8 : n0 ≤ h1.size := Nat.le_trans Z0 K1.1
  have ne9 : pop ≠ cl_184_1 := Nat.ne_of_lt (Nat.lt_of_lt_of_le fc0.lt B1_0)
  have ne10 : pl ≠ cl_184_1 := Nat.ne_of_lt (Nat.lt_of_lt_of_le fc3.lt B1_0)
  have ne11 : x2 ≠ cl_184_1 := Nat.ne_of_lt (Nat.lt_of_lt_of_le fc4.lt B1_0)
  have fr12 : n0 ≤ cl_184_1 := Nat.le_trans Z0 B1_0
  show Own.Go p e below s n0 _ _ _ (T1.setTop (mkF m 187 _ [.ref cl_184_1]))
  clear X fc0 fc1 fc2 fc3 fc4 fc5
  refine Own.astore X1 at_187 rfl (l' := #[.val (.int i0), .val (.int i1), .val (.int i2), .val (.int i3), .val (.int i4), .val (.int qn), .val (.int qd), .val (.ref q0), .val (.ref q1), .val (.ref q2), .val (.ref q3), .val (.ref pop), .val (.int (2 : Int32)), .val (.int qm), .val (.ref cl_184_1), .unset]) rfl ?_
  refine Own.aload X1 at_189 rfl rfl ?_
  refine Own.alen_ X1 at_191 G1_0 ?_
  refine Own.iconst X1 (v := 1) at_192 rfl ?_
  refine Own.icmp_ X1 (pc' := 205) at_193 (by decide) (fun q => absurd (show ¬ ((1 : Int) = (1 : Int)) from q) (show ¬ (¬ ((1 : Int) = (1 : Int))) from fun z => z (by decide))) (fun _ => ?_)
  refine Own.aload X1 at_196 rfl rfl ?_
  refine Own.iconst X1 (v := 0) at_198 rfl ?_
  refine Own.iaload_ X1 at_199 G1_0 (by decide) rfl ?_
  refine Own.iload X1 at_200 rfl ?_
  refine Own.icmp_ X1 (pc' := 207) at_202 (by decide) (fun _ => ?_) (fun q => absurd (show (2 : Int) = (2 : Int) from by decide) q)
  refine Own.aload X1 at_207 rfl rfl ?_
  refine Own.iconst X1 (v := 0) at_209 rfl ?_
  refine Own.iload X1 at_210 rfl ?_
  refine Own.bipush X1 (v := 7) at_212 rfl ?_
  refine Own.iadd X1 at_214 ?_
  show Own.Go p e below s n0 _ _ _ (T1.setTop (mkF m 215 _ [.int (9 : Int32), .int (0 : Int32), .ref cl_184_1]))
  refine Own.iastore_ X1 (i := 0) at_215 G1_0 (by decide) rfl (Nat.le_of_ble_eq_true rfl) fr12 fun T13 h13 X13 W13 V13 => ?_
  have F14 := F2.wr W13
  have F15 := F3.other W13 (Or.inl ne9)
  have F16 := F4.other W13 (Or.inl ne9)
  have F17 := F5.other W13 ne10
  have F18 := F6.other W13 ne11
  have F19 := F7.wr W13
  have Z20 : n0 ≤ h13.size := by rw [W13.size]; exact Z8
  have V21 : Arv Z h13 cl_184_1 c_pl .int (1 : Int32) [.int (9 : Int32)] (.int (0 : Int32)) := V13
  clear F2 F3 F4 F5 F6 F7 G1_0 X1
  refine Own.aload X13 at_216 rfl rfl ?_
  refine Own.callV_ (y := mn_4) (z := mn_4) (a := pop) X13 at_218 (Own.wd hw 41 rfl) (Own.wd hw 42 rfl) (Own.wd hw 44 rfl) (Own.wd hw 43 rfl) rfl (Own.wd hw 3 rfl) (Own.wd hw 45 rfl) (by decide) F14 (rm5_2 l Z a0 hw pop pl x0 x1 x2 k_pl c_pl (2 : Int32) h13 n0 Z20 F15 F16 F17 F18 F19 ) (lenOf pd_14 rfl) rfl (argsL := []) (rest := []) rfl (W := 0) (Nat.le_of_eq rfl) (by decide) (by decide) (by decide) (by decide) fun T22 h22 v22 X22 q22 => ?_
  obtain ⟨cl_218_22, rfl, K22, B22_0, G22_0⟩ := q22
  have F23 := F14.keep K22
  have F24 := F15.keep K22 nin0
  have F25 := F16.keep K22 nin0
  have F26 := F17.keep K22 nin0
  have F27 := F18.keep K22 nin0
  have F28 := F19.keep K22
  have F29 := V21.keep K22 nin0
  have Z30 : n0 ≤ h22.size := Nat.le_trans Z20 K22.1
  have ne31 : pop ≠ cl_218_22 := Nat.ne_of_lt (Nat.lt_of_lt_of_le F14.lt B22_0)
  have ne32 : pl ≠ cl_218_22 := Nat.ne_of_lt (Nat.lt_of_lt_of_le F17.lt B22_0)
  have ne33 : x2 ≠ cl_218_22 := Nat.ne_of_lt (Nat.lt_of_lt_of_le F18.lt B22_0)
  have ne34 : cl_184_1 ≠ cl_218_22 := Nat.ne_of_lt (Nat.lt_of_lt_of_le V21.lt B22_0)
  have fr35 : n0 ≤ cl_218_22 := Nat.le_trans Z20 B22_0
  show Own.Go p e below s n0 _ _ _ (T22.setTop (mkF m 221 _ [.ref cl_218_22]))
  clear F14 F15 F16 F17 F18 F19 V21 X13
  refine Own.astore X22 at_221 rfl (l' := #[.val (.int i0), .val (.int i1), .val (.int i2), .val (.int i3), .val (.int i4), .val (.int qn), .val (.int qd), .val (.ref q0), .val (.ref q1), .val (.ref q2), .val (.ref q3), .val (.ref pop), .val (.int (2 : Int32)), .val (.int qm), .val (.ref cl_184_1), .val (.ref cl_218_22)]) rfl ?_
  refine Own.aload X22 at_223 rfl rfl ?_
  refine Own.aload X22 at_225 rfl rfl ?_
  refine Own.acmp_ X22 (pc' := 230) (same := false) at_227 rfl rfl (decide_eq_false fun q => (Ne.symm ne34) (Value.ref.inj q)) (by decide) (by decide) ?_
  refine Own.aload X22 at_230 rfl rfl ?_
  refine Own.alen_ X22 at_232 G22_0 ?_
  refine Own.iconst X22 (v := 1) at_233 rfl ?_
  refine Own.icmp_ X22 (pc' := 250) at_234 (by decide) (fun q => absurd (show ¬ ((1 : Int) = (1 : Int)) from q) (show ¬ (¬ ((1 : Int) = (1 : Int))) from fun z => z (by decide))) (fun _ => ?_)
  refine Own.aload X22 at_237 rfl rfl ?_
  refine Own.iconst X22 (v := 0) at_239 rfl ?_
  refine Own.iaload_ X22 at_240 G22_0 (by decide) rfl ?_
  refine Own.iload X22 at_241 rfl ?_
  refine Own.icmp_ X22 (pc' := 250) at_243 (by decide) (fun q => absurd (show ¬ ((2 : Int) = (2 : Int)) from q) (show ¬ (¬ ((2 : Int) = (2 : Int))) from fun z => z (by decide))) (fun _ => ?_)
  refine Own.iconst X22 (v := 1) at_246 rfl ?_
  refine Own.goto_ X22 (pc' := 251) at_247 (by decide) ?_
  exact Own.retB X22 at_251 (by decide) rfl (by decide) (by decide)
set_option maxRecDepth 65536 in
set_option maxHeartbeats 40000000 in
theorem tl_23 (l : Launch) (Z : State) (a0 : Array Value) (hw : ∀ d ∈ tables_1, d.before a0 Z = true) {p : Program} {e : Env} {s : State} {m : MethodId} {below : List Frame} {meth : Method} {c : Code} {T : State} {h0 : Heap} {n0 : Nat} {i0 i1 i2 i3 i4 : Int32} (qn qd qm : Int32) (q0 q1 q2 q3 : Addr) {pop : Addr} (pl x0 x1 x2 : Addr) (k_pl c_pl : ClassId) (X : Own.St p l e room_1 s m #[.int i0, .int i1, .int i2, .int i3, .int i4] below meth c Z code "com/example/allocus/allocus/method/PopulationBestPinLaw" "law" maxLocals ret n0 T h0 36 120) (Z0 : n0 ≤ h0.size) (fc0 : Exa Z h0 pop "com/example/allocus/allocus/method/Population") (fc1 : Fld Z h0 pop "com/example/allocus/allocus/method/Population" "plans" "[[I" (.ref pl)) (fc2 : Fld Z h0 pop "com/example/allocus/allocus/method/Population" "best" "I" (.int (2 : Int32))) (fc3 : Arv Z h0 pl k_pl (.array .int) (3 : Int32) [.ref x0, .ref x1, .ref x2] (.null)) (fc4 : Arv Z h0 x2 c_pl .int (1 : Int32) [.int (3 : Int32)] (.int (0 : Int32))) (fc5 : Exa Z h0 x2 "[I") :
    Own.Go p e below s n0 (fun v _ => v = some (.int 1)) 40 128 (T.setTop (mkF m 182 #[.val (.int i0), .val (.int i1), .val (.int i2), .val (.int i3), .val (.int i4), .val (.int qn), .val (.int qd), .val (.ref q0), .val (.ref q1), .val (.ref q2), .val (.ref q3), .val (.ref pop), .val (.int (3 : Int32)), .val (.int qm), .unset, .unset] [])) := by
  refine Own.aload X at_182 rfl rfl ?_
  refine Own.callV_ (y := mn_4) (z := mn_4) (a := pop) X at_184 (Own.wd hw 41 rfl) (Own.wd hw 42 rfl) (Own.wd hw 44 rfl) (Own.wd hw 43 rfl) rfl (Own.wd hw 3 rfl) (Own.wd hw 45 rfl) (by decide) fc0 (rm5_2 l Z a0 hw pop pl x0 x1 x2 k_pl c_pl (3 : Int32) h0 n0 Z0 fc1 fc2 fc3 fc4 fc5 ) (lenOf pd_14 rfl) rfl (argsL := []) (rest := []) rfl (W := 0) (Nat.le_of_eq rfl) (by decide) (by decide) (by decide) (by decide) fun T1 h1 v1 X1 q1 => ?_
  obtain ⟨cl_184_1, rfl, K1, B1_0, G1_0⟩ := q1
  have F2 := fc0.keep K1
  have F3 := fc1.keep K1 nin0
  have F4 := fc2.keep K1 nin0
  have F5 := fc3.keep K1 nin0
  have F6 := fc4.keep K1 nin0
  have F7 := fc5.keep K1
  have Z8 : n0 ≤ h1.size := Nat.le_trans Z0 K1.1
  have ne9 : pop ≠ cl_184_1 := Nat.ne_of_lt (Nat.lt_of_lt_of_le fc0.lt B1_0)
  have ne10 : pl ≠ cl_184_1 := Nat.ne_of_lt (Nat.lt_of_lt_of_le fc3.lt B1_0)
  have ne11 : x2 ≠ cl_184_1 := Nat.ne_of_lt (Nat.lt_of_lt_of_le fc4.lt B1_0)
  have fr12 : n0 ≤ cl_184_1 := Nat.le_trans Z0 B1_0
  show Own.Go p e below s n0 _ _ _ (T1.setTop (mkF m 187 _ [.ref cl_184_1]))
  clear X fc0 fc1 fc2 fc3 fc4 fc5
  refine Own.astore X1 at_187 rfl (l' := #[.val (.int i0), .val (.int i1), .val (.int i2), .val (.int i3), .val (.int i4), .val (.int qn), .val (.int qd), .val (.ref q0), .val (.ref q1), .val (.ref q2), .val (.ref q3), .val (.ref pop), .val (.int (3 : Int32)), .val (.int qm), .val (.ref cl_184_1), .unset]) rfl ?_
  refine Own.aload X1 at_189 rfl rfl ?_
  refine Own.alen_ X1 at_191 G1_0 ?_
  refine Own.iconst X1 (v := 1) at_192 rfl ?_
  refine Own.icmp_ X1 (pc' := 205) at_193 (by decide) (fun q => absurd (show ¬ ((1 : Int) = (1 : Int)) from q) (show ¬ (¬ ((1 : Int) = (1 : Int))) from fun z => z (by decide))) (fun _ => ?_)
  refine Own.aload X1 at_196 rfl rfl ?_
  refine Own.iconst X1 (v := 0) at_198 rfl ?_
  refine Own.iaload_ X1 at_199 G1_0 (by decide) rfl ?_
  refine Own.iload X1 at_200 rfl ?_
  refine Own.icmp_ X1 (pc' := 207) at_202 (by decide) (fun _ => ?_) (fun q => absurd (show (3 : Int) = (3 : Int) from by decide) q)
  refine Own.aload X1 at_207 rfl rfl ?_
  refine Own.iconst X1 (v := 0) at_209 rfl ?_
  refine Own.iload X1 at_210 rfl ?_
  refine Own.bipush X1 (v := 7) at_212 rfl ?_
  refine Own.iadd X1 at_214 ?_
  show Own.Go p e below s n0 _ _ _ (T1.setTop (mkF m 215 _ [.int (10 : Int32), .int (0 : Int32), .ref cl_184_1]))
  refine Own.iastore_ X1 (i := 0) at_215 G1_0 (by decide) rfl (Nat.le_of_ble_eq_true rfl) fr12 fun T13 h13 X13 W13 V13 => ?_
  have F14 := F2.wr W13
  have F15 := F3.other W13 (Or.inl ne9)
  have F16 := F4.other W13 (Or.inl ne9)
  have F17 := F5.other W13 ne10
  have F18 := F6.other W13 ne11
  have F19 := F7.wr W13
  have Z20 : n0 ≤ h13.size := by rw [W13.size]; exact Z8
  have V21 : Arv Z h13 cl_184_1 c_pl .int (1 : Int32) [.int (10 : Int32)] (.int (0 : Int32)) := V13
  clear F2 F3 F4 F5 F6 F7 G1_0 X1
  refine Own.aload X13 at_216 rfl rfl ?_
  refine Own.callV_ (y := mn_4) (z := mn_4) (a := pop) X13 at_218 (Own.wd hw 41 rfl) (Own.wd hw 42 rfl) (Own.wd hw 44 rfl) (Own.wd hw 43 rfl) rfl (Own.wd hw 3 rfl) (Own.wd hw 45 rfl) (by decide) F14 (rm5_2 l Z a0 hw pop pl x0 x1 x2 k_pl c_pl (3 : Int32) h13 n0 Z20 F15 F16 F17 F18 F19 ) (lenOf pd_14 rfl) rfl (argsL := []) (rest := []) rfl (W := 0) (Nat.le_of_eq rfl) (by decide) (by decide) (by decide) (by decide) fun T22 h22 v22 X22 q22 => ?_
  obtain ⟨cl_218_22, rfl, K22, B22_0, G22_0⟩ := q22
  have F23 := F14.keep K22
  have F24 := F15.keep K22 nin0
  have F25 := F16.keep K22 nin0
  have F26 := F17.keep K22 nin0
  have F27 := F18.keep K22 nin0
  have F28 := F19.keep K22
  have F29 := V21.keep K22 nin0
  have Z30 : n0 ≤ h22.size := Nat.le_trans Z20 K22.1
  have ne31 : pop ≠ cl_218_22 := Nat.ne_of_lt (Nat.lt_of_lt_of_le F14.lt B22_0)
  have ne32 : pl ≠ cl_218_22 := Nat.ne_of_lt (Nat.lt_of_lt_of_le F17.lt B22_0)
  have ne33 : x2 ≠ cl_218_22 := Nat.ne_of_lt (Nat.lt_of_lt_of_le F18.lt B22_0)
  have ne34 : cl_184_1 ≠ cl_218_22 := Nat.ne_of_lt (Nat.lt_of_lt_of_le V21.lt B22_0)
  have fr35 : n0 ≤ cl_218_22 := Nat.le_trans Z20 B22_0
  show Own.Go p e below s n0 _ _ _ (T22.setTop (mkF m 221 _ [.ref cl_218_22]))
  clear F14 F15 F16 F17 F18 F19 V21 X13
  refine Own.astore X22 at_221 rfl (l' := #[.val (.int i0), .val (.int i1), .val (.int i2), .val (.int i3), .val (.int i4), .val (.int qn), .val (.int qd), .val (.ref q0), .val (.ref q1), .val (.ref q2), .val (.ref q3), .val (.ref pop), .val (.int (3 : Int32)), .val (.int qm), .val (.ref cl_184_1), .val (.ref cl_218_22)]) rfl ?_
  refine Own.aload X22 at_223 rfl rfl ?_
  refine Own.aload X22 at_225 rfl rfl ?_
  refine Own.acmp_ X22 (pc' := 230) (same := false) at_227 rfl rfl (decide_eq_false fun q => (Ne.symm ne34) (Value.ref.inj q)) (by decide) (by decide) ?_
  refine Own.aload X22 at_230 rfl rfl ?_
  refine Own.alen_ X22 at_232 G22_0 ?_
  refine Own.iconst X22 (v := 1) at_233 rfl ?_
  refine Own.icmp_ X22 (pc' := 250) at_234 (by decide) (fun q => absurd (show ¬ ((1 : Int) = (1 : Int)) from q) (show ¬ (¬ ((1 : Int) = (1 : Int))) from fun z => z (by decide))) (fun _ => ?_)
  refine Own.aload X22 at_237 rfl rfl ?_
  refine Own.iconst X22 (v := 0) at_239 rfl ?_
  refine Own.iaload_ X22 at_240 G22_0 (by decide) rfl ?_
  refine Own.iload X22 at_241 rfl ?_
  refine Own.icmp_ X22 (pc' := 250) at_243 (by decide) (fun q => absurd (show ¬ ((3 : Int) = (3 : Int)) from q) (show ¬ (¬ ((3 : Int) = (3 : Int))) from fun z => z (by decide))) (fun _ => ?_)
  refine Own.iconst X22 (v := 1) at_246 rfl ?_
  refine Own.goto_ X22 (pc' := 251) at_247 (by decide) ?_
  exact Own.retB X22 at_251 (by decide) rfl (by decide) (by decide)
theorem ef_0 (m : MethodId) (x0 : Int32) (x1 : Int32) (x2 : Int32) (x3 : Int32) (x4 : Int32) : entryFrame m #[.int x0, .int x1, .int x2, .int x3, .int x4] maxLocals = mkF m 0 #[.val (.int x0), .val (.int x1), .val (.int x2), .val (.int x3), .val (.int x4), .unset, .unset, .unset, .unset, .unset, .unset, .unset, .unset, .unset, .unset, .unset] [] := by first | (simp [entryFrame, mkF, argsToLocals, Value.category, maxLocals]; done) | rfl
set_option maxRecDepth 65536 in
set_option maxHeartbeats 40000000 in
theorem rm0 (l : Launch) (Z : State) (a0 : Array Value) (hw : ∀ d ∈ tables_1, d.before a0 Z = true) (i0 i1 i2 i3 i4 : Int32) (h0 : Heap) (n0 : Nat) (Z0 : n0 ≤ h0.size)  :
    Own.Con l Z x tables_1 code maxLocals ret room_1 #[.int i0, .int i1, .int i2, .int i3, .int i4] h0 n0 (fun v _ => v = some (.int 1)) := by
  refine Own.enter (own := "com/example/allocus/allocus/method/PopulationBestPinLaw") (nm := "law") (plainFor_of_name pn_com_example_allocus_allocus_method_PopulationBestPinLaw) rfl rfl (fun m => ef_0 m i0 i1 i2 i3 i4) fun p e s m below meth c T X => ?_
  refine Own.iconst X (v := 1) at_0 rfl ?_
  refine Own.iload X at_1 rfl ?_
  refine Own.iconst X (v := 3) at_3 rfl ?_
  refine Own.iand X at_4 ?_
  refine Own.iconst X (v := 3) at_5 rfl ?_
  refine Own.irem X at_6 (by decide) ?_
  obtain ⟨tt, e_tt⟩ : ∃ v, ((i4 &&& (3 : Int32)) % (3 : Int32)) = v := ⟨_, rfl⟩
  rw [e_tt]
  refine Own.iadd X at_7 ?_
  obtain ⟨nn, e_nn⟩ : ∃ v, ((1 : Int32) + tt) = v := ⟨_, rfl⟩
  rw [e_nn]
  refine Own.istore X at_8 (l' := #[.val (.int i0), .val (.int i1), .val (.int i2), .val (.int i3), .val (.int i4), .val (.int nn), .unset, .unset, .unset, .unset, .unset, .unset, .unset, .unset, .unset, .unset]) rfl ?_
  rcases own_n e_tt e_nn with rfl | rfl | rfl
  · refine Own.iload X at_10 rfl ?_
    refine Own.iconst X (v := 3) at_12 rfl ?_
    refine Own.icmp_ X (pc' := 27) at_13 (by decide) (fun _ => ?_) (fun q => absurd (show ¬ ((1 : Int) = (3 : Int)) from by decide) q)
    refine Own.iconst X (v := 0) at_27 rfl ?_
    refine Own.istore X at_28 (l' := #[.val (.int i0), .val (.int i1), .val (.int i2), .val (.int i3), .val (.int i4), .val (.int (1 : Int32)), .val (.int (0 : Int32)), .unset, .unset, .unset, .unset, .unset, .unset, .unset, .unset, .unset]) rfl ?_
    refine Own.iconst X (v := 1) at_30 rfl ?_
    refine Own.newP_ X (cap := 1) (ty := .int) (dv := .int (0 : Int32)) (ad := "[I") at_31 rfl rfl (by decide) (Own.wd hw 0 rfl) (by decide) (by decide) (by decide) (by decide) (by decide) fun T1 h1 sa0 k_sa0 g_sa0 X1 E1 V1 A1 => ?_
    have fr2 : n0 ≤ sa0 := Nat.le_trans Z0 (Nat.le_of_eq g_sa0.symm)
    have Z3 : n0 ≤ h1.size := Nat.le_trans Z0 E1.1
    have V4 : Arv Z h1 sa0 k_sa0 .int (1 : Int32) [.int (0 : Int32)] (.int (0 : Int32)) := V1.pad (pad_rep [] (.int (0 : Int32)) 1)
    clear X
    refine Own.dup X1 at_33 rfl ?_
    refine Own.iconst X1 (v := 0) at_34 rfl ?_
    refine Own.iconst X1 (v := 0) at_35 rfl ?_
    refine Own.iastore_ X1 (i := 0) at_36 V4 (by decide) rfl (Nat.le_of_ble_eq_true rfl) fr2 fun T5 h5 X5 W5 V5 => ?_
    have F6 := A1.wr W5
    have Z7 : n0 ≤ h5.size := by rw [W5.size]; exact Z3
    have V8 : Arv Z h5 sa0 k_sa0 .int (1 : Int32) [.int (0 : Int32)] (.int (0 : Int32)) := V5
    clear A1 V4 X1
    refine Own.astore X5 at_37 rfl (l' := #[.val (.int i0), .val (.int i1), .val (.int i2), .val (.int i3), .val (.int i4), .val (.int (1 : Int32)), .val (.int (0 : Int32)), .val (.ref sa0), .unset, .unset, .unset, .unset, .unset, .unset, .unset, .unset]) rfl ?_
    refine Own.iconst X5 (v := 1) at_39 rfl ?_
    refine Own.newP_ X5 (cap := 1) (ty := .int) (dv := .int (0 : Int32)) (ad := "[I") at_40 rfl rfl (by decide) (Own.wd hw 0 rfl) (by decide) (by decide) (by decide) (by decide) (by decide) fun T9 h9 sa1 k_sa1 g_sa1 X9 E9 V9 A9 => ?_
    have ne10 : sa0 ≠ sa1 := Nat.ne_of_lt (Nat.lt_of_lt_of_le F6.lt (Nat.le_of_eq g_sa1.symm))
    have fr11 : n0 ≤ sa1 := Nat.le_trans Z7 (Nat.le_of_eq g_sa1.symm)
    have F12 := F6.ext E9
    have F13 := V8.ext E9
    have Z14 : n0 ≤ h9.size := Nat.le_trans Z7 E9.1
    have V15 : Arv Z h9 sa1 k_sa1 .int (1 : Int32) [.int (0 : Int32)] (.int (0 : Int32)) := V9.pad (pad_rep [] (.int (0 : Int32)) 1)
    clear F6 V8 X5
    refine Own.dup X9 at_42 rfl ?_
    refine Own.iconst X9 (v := 0) at_43 rfl ?_
    refine Own.iconst X9 (v := 1) at_44 rfl ?_
    refine Own.iastore_ X9 (i := 0) at_45 V15 (by decide) rfl (Nat.le_of_ble_eq_true rfl) fr11 fun T16 h16 X16 W16 V16 => ?_
    have F17 := F12.wr W16
    have F18 := F13.other W16 ne10
    have F19 := A9.wr W16
    have Z20 : n0 ≤ h16.size := by rw [W16.size]; exact Z14
    have V21 : Arv Z h16 sa1 k_sa1 .int (1 : Int32) [.int (1 : Int32)] (.int (0 : Int32)) := V16
    clear A9 F12 F13 V15 X9
    refine Own.astore X16 at_46 rfl (l' := #[.val (.int i0), .val (.int i1), .val (.int i2), .val (.int i3), .val (.int i4), .val (.int (1 : Int32)), .val (.int (0 : Int32)), .val (.ref sa0), .val (.ref sa1), .unset, .unset, .unset, .unset, .unset, .unset, .unset]) rfl ?_
    refine Own.iconst X16 (v := 1) at_48 rfl ?_
    refine Own.newP_ X16 (cap := 1) (ty := .int) (dv := .int (0 : Int32)) (ad := "[I") at_49 rfl rfl (by decide) (Own.wd hw 0 rfl) (by decide) (by decide) (by decide) (by decide) (by decide) fun T22 h22 sa2 k_sa2 g_sa2 X22 E22 V22 A22 => ?_
    have ne23 : sa0 ≠ sa2 := Nat.ne_of_lt (Nat.lt_of_lt_of_le F17.lt (Nat.le_of_eq g_sa2.symm))
    have ne24 : sa1 ≠ sa2 := Nat.ne_of_lt (Nat.lt_of_lt_of_le F19.lt (Nat.le_of_eq g_sa2.symm))
    have fr25 : n0 ≤ sa2 := Nat.le_trans Z20 (Nat.le_of_eq g_sa2.symm)
    have F26 := F17.ext E22
    have F27 := F18.ext E22
    have F28 := F19.ext E22
    have F29 := V21.ext E22
    have Z30 : n0 ≤ h22.size := Nat.le_trans Z20 E22.1
    have V31 : Arv Z h22 sa2 k_sa2 .int (1 : Int32) [.int (0 : Int32)] (.int (0 : Int32)) := V22.pad (pad_rep [] (.int (0 : Int32)) 1)
    clear F17 F18 F19 V21 X16
    refine Own.dup X22 at_51 rfl ?_
    refine Own.iconst X22 (v := 0) at_52 rfl ?_
    refine Own.iconst X22 (v := 2) at_53 rfl ?_
    refine Own.iastore_ X22 (i := 0) at_54 V31 (by decide) rfl (Nat.le_of_ble_eq_true rfl) fr25 fun T32 h32 X32 W32 V32 => ?_
    have F33 := F26.wr W32
    have F34 := F27.other W32 ne23
    have F35 := F28.wr W32
    have F36 := F29.other W32 ne24
    have F37 := A22.wr W32
    have Z38 : n0 ≤ h32.size := by rw [W32.size]; exact Z30
    have V39 : Arv Z h32 sa2 k_sa2 .int (1 : Int32) [.int (2 : Int32)] (.int (0 : Int32)) := V32
    clear A22 F26 F27 F28 F29 V31 X22
    refine Own.astore X32 at_55 rfl (l' := #[.val (.int i0), .val (.int i1), .val (.int i2), .val (.int i3), .val (.int i4), .val (.int (1 : Int32)), .val (.int (0 : Int32)), .val (.ref sa0), .val (.ref sa1), .val (.ref sa2), .unset, .unset, .unset, .unset, .unset, .unset]) rfl ?_
    refine Own.iconst X32 (v := 1) at_57 rfl ?_
    refine Own.newP_ X32 (cap := 1) (ty := .int) (dv := .int (0 : Int32)) (ad := "[I") at_58 rfl rfl (by decide) (Own.wd hw 0 rfl) (by decide) (by decide) (by decide) (by decide) (by decide) fun T40 h40 sa3 k_sa3 g_sa3 X40 E40 V40 A40 => ?_
    have ne41 : sa0 ≠ sa3 := Nat.ne_of_lt (Nat.lt_of_lt_of_le F33.lt (Nat.le_of_eq g_sa3.symm))
    have ne42 : sa1 ≠ sa3 := Nat.ne_of_lt (Nat.lt_of_lt_of_le F35.lt (Nat.le_of_eq g_sa3.symm))
    have ne43 : sa2 ≠ sa3 := Nat.ne_of_lt (Nat.lt_of_lt_of_le F37.lt (Nat.le_of_eq g_sa3.symm))
    have fr44 : n0 ≤ sa3 := Nat.le_trans Z38 (Nat.le_of_eq g_sa3.symm)
    have F45 := F33.ext E40
    have F46 := F34.ext E40
    have F47 := F35.ext E40
    have F48 := F36.ext E40
    have F49 := F37.ext E40
    have F50 := V39.ext E40
    have Z51 : n0 ≤ h40.size := Nat.le_trans Z38 E40.1
    have V52 : Arv Z h40 sa3 k_sa3 .int (1 : Int32) [.int (0 : Int32)] (.int (0 : Int32)) := V40.pad (pad_rep [] (.int (0 : Int32)) 1)
    clear F33 F34 F35 F36 F37 V39 X32
    refine Own.dup X40 at_60 rfl ?_
    refine Own.iconst X40 (v := 0) at_61 rfl ?_
    refine Own.iconst X40 (v := 3) at_62 rfl ?_
    refine Own.iastore_ X40 (i := 0) at_63 V52 (by decide) rfl (Nat.le_of_ble_eq_true rfl) fr44 fun T53 h53 X53 W53 V53 => ?_
    have F54 := F45.wr W53
    have F55 := F46.other W53 ne41
    have F56 := F47.wr W53
    have F57 := F48.other W53 ne42
    have F58 := F49.wr W53
    have F59 := F50.other W53 ne43
    have F60 := A40.wr W53
    have Z61 : n0 ≤ h53.size := by rw [W53.size]; exact Z51
    have V62 : Arv Z h53 sa3 k_sa3 .int (1 : Int32) [.int (3 : Int32)] (.int (0 : Int32)) := V53
    clear A40 F45 F46 F47 F48 F49 F50 V52 X40
    refine Own.astore X53 at_64 rfl (l' := #[.val (.int i0), .val (.int i1), .val (.int i2), .val (.int i3), .val (.int i4), .val (.int (1 : Int32)), .val (.int (0 : Int32)), .val (.ref sa0), .val (.ref sa1), .val (.ref sa2), .val (.ref sa3), .unset, .unset, .unset, .unset, .unset]) rfl ?_
    refine Own.newO_ X53 at_66 (Own.wd hw 1 rfl) (Own.wd hw 2 rfl) (Own.wd hw 3 rfl) (by decide) (by decide) fun T63 h63 pop g_pop X63 E63 A63 D63 => ?_
    have ne64 : sa0 ≠ pop := Nat.ne_of_lt (Nat.lt_of_lt_of_le F55.lt (Nat.le_of_eq g_pop.symm))
    have ne65 : sa1 ≠ pop := Nat.ne_of_lt (Nat.lt_of_lt_of_le F57.lt (Nat.le_of_eq g_pop.symm))
    have ne66 : sa2 ≠ pop := Nat.ne_of_lt (Nat.lt_of_lt_of_le F59.lt (Nat.le_of_eq g_pop.symm))
    have ne67 : sa3 ≠ pop := Nat.ne_of_lt (Nat.lt_of_lt_of_le V62.lt (Nat.le_of_eq g_pop.symm))
    have fr68 : n0 ≤ pop := Nat.le_trans Z61 (Nat.le_of_eq g_pop.symm)
    have F69 := F55.ext E63
    have F70 := F57.ext E63
    have F71 := F59.ext E63
    have F72 := V62.ext E63
    have Z73 : n0 ≤ h63.size := Nat.le_trans Z61 E63.1
    have F74 : Fld Z h63 pop "com/example/allocus/allocus/method/Population" "plans" "[[I" (.null) := D63 (Or.inr (Own.wd hw 13 rfl)) (ty := (.array (.array .int))) (by decide)
    have F75 : Fld Z h63 pop "com/example/allocus/allocus/method/Population" "objectives" "[D" (.null) := D63 (Or.inr (Own.wd hw 16 rfl)) (ty := (.array .double)) (by decide)
    have F76 : Fld Z h63 pop "com/example/allocus/allocus/method/Population" "entered" "[J" (.null) := D63 (Or.inr (Own.wd hw 19 rfl)) (ty := (.array .long)) (by decide)
    have F77 : Fld Z h63 pop "com/example/allocus/allocus/method/Population" "count" "I" (.int (0 : Int32)) := D63 (Or.inl (Own.wd hw 26 rfl)) (ty := .int) (by decide)
    have F78 : Fld Z h63 pop "com/example/allocus/allocus/method/Population" "entries" "J" (.long (0 : Int64)) := D63 (Or.inl (Own.wd hw 36 rfl)) (ty := .long) (by decide)
    have F79 : Fld Z h63 pop "com/example/allocus/allocus/method/Population" "worst" "I" (.int (0 : Int32)) := D63 (Or.inl (Own.wd hw 38 rfl)) (ty := .int) (by decide)
    have F80 : Fld Z h63 pop "com/example/allocus/allocus/method/Population" "best" "I" (.int (0 : Int32)) := D63 (Or.inl (Own.wd hw 40 rfl)) (ty := .int) (by decide)
    clear F55 F57 F59 V62 X53
    refine Own.dup X63 at_69 rfl ?_
    refine Own.iconst X63 (v := 3) at_70 rfl ?_
    refine Own.iconst X63 (v := 1) at_71 rfl ?_
    refine Own.callI_ (y := mn_0) (a := pop) X63 at_72 rfl (Own.wd hw 4 rfl) (Own.wd hw 5 rfl) (Own.wd hw 3 rfl) (Own.wd hw 6 rfl) (by decide) (rm1 l Z a0 hw pop h63 n0 Z73 A63 F74 F75 F76 F77 F78 F79 F80 fr68 ) (lenOf pd_12 rfl) rfl (argsL := [.int (3 : Int32), .int (1 : Int32)]) (rest := [.ref pop]) rfl (W := 1) (Nat.le_of_eq rfl) (by decide) (by decide) (by decide) (by decide) fun T81 h81 v81 X81 q81 => ?_
    obtain ⟨pl_72_81, x0_72_81, x1_72_81, x2_72_81, oa_72_81, na_72_81, k_pl_72_81, c_pl_72_81, k_oa_72_81, k_na_72_81, rfl, K81, B81_0, B81_1, B81_2, B81_3, B81_4, B81_5, U81_0, U81_1, U81_2, U81_3, U81_4, U81_5, U81_6, U81_7, U81_8, U81_9, U81_10, U81_11, U81_12, U81_13, U81_14, G81_0, G81_1, G81_2, G81_3, G81_4, G81_5, G81_6, G81_7, G81_8, G81_9, G81_10, G81_11, G81_12, G81_13, G81_14, G81_15⟩ := q81
    have F82 := F69.keep K81 (ninS ne64 nin0)
    have F83 := F70.keep K81 (ninS ne65 nin0)
    have F84 := F71.keep K81 (ninS ne66 nin0)
    have F85 := F72.keep K81 (ninS ne67 nin0)
    have F86 := A63.keep K81
    have Z87 : n0 ≤ h81.size := Nat.le_trans Z73 K81.1
    have ne88 : sa0 ≠ pl_72_81 := Nat.ne_of_lt (Nat.lt_of_lt_of_le F69.lt B81_0)
    have ne89 : sa1 ≠ pl_72_81 := Nat.ne_of_lt (Nat.lt_of_lt_of_le F70.lt B81_0)
    have ne90 : sa2 ≠ pl_72_81 := Nat.ne_of_lt (Nat.lt_of_lt_of_le F71.lt B81_0)
    have ne91 : sa3 ≠ pl_72_81 := Nat.ne_of_lt (Nat.lt_of_lt_of_le F72.lt B81_0)
    have ne92 : pop ≠ pl_72_81 := Nat.ne_of_lt (Nat.lt_of_lt_of_le A63.lt B81_0)
    have fr93 : n0 ≤ pl_72_81 := Nat.le_trans Z73 B81_0
    have ne94 : sa0 ≠ x0_72_81 := Nat.ne_of_lt (Nat.lt_of_lt_of_le F69.lt B81_1)
    have ne95 : sa1 ≠ x0_72_81 := Nat.ne_of_lt (Nat.lt_of_lt_of_le F70.lt B81_1)
    have ne96 : sa2 ≠ x0_72_81 := Nat.ne_of_lt (Nat.lt_of_lt_of_le F71.lt B81_1)
    have ne97 : sa3 ≠ x0_72_81 := Nat.ne_of_lt (Nat.lt_of_lt_of_le F72.lt B81_1)
    have ne98 : pop ≠ x0_72_81 := Nat.ne_of_lt (Nat.lt_of_lt_of_le A63.lt B81_1)
    have fr99 : n0 ≤ x0_72_81 := Nat.le_trans Z73 B81_1
    have ne100 : sa0 ≠ x1_72_81 := Nat.ne_of_lt (Nat.lt_of_lt_of_le F69.lt B81_2)
    have ne101 : sa1 ≠ x1_72_81 := Nat.ne_of_lt (Nat.lt_of_lt_of_le F70.lt B81_2)
    have ne102 : sa2 ≠ x1_72_81 := Nat.ne_of_lt (Nat.lt_of_lt_of_le F71.lt B81_2)
    have ne103 : sa3 ≠ x1_72_81 := Nat.ne_of_lt (Nat.lt_of_lt_of_le F72.lt B81_2)
    have ne104 : pop ≠ x1_72_81 := Nat.ne_of_lt (Nat.lt_of_lt_of_le A63.lt B81_2)
    have fr105 : n0 ≤ x1_72_81 := Nat.le_trans Z73 B81_2
    have ne106 : sa0 ≠ x2_72_81 := Nat.ne_of_lt (Nat.lt_of_lt_of_le F69.lt B81_3)
    have ne107 : sa1 ≠ x2_72_81 := Nat.ne_of_lt (Nat.lt_of_lt_of_le F70.lt B81_3)
    have ne108 : sa2 ≠ x2_72_81 := Nat.ne_of_lt (Nat.lt_of_lt_of_le F71.lt B81_3)
    have ne109 : sa3 ≠ x2_72_81 := Nat.ne_of_lt (Nat.lt_of_lt_of_le F72.lt B81_3)
    have ne110 : pop ≠ x2_72_81 := Nat.ne_of_lt (Nat.lt_of_lt_of_le A63.lt B81_3)
    have fr111 : n0 ≤ x2_72_81 := Nat.le_trans Z73 B81_3
    have ne112 : sa0 ≠ oa_72_81 := Nat.ne_of_lt (Nat.lt_of_lt_of_le F69.lt B81_4)
    have ne113 : sa1 ≠ oa_72_81 := Nat.ne_of_lt (Nat.lt_of_lt_of_le F70.lt B81_4)
    have ne114 : sa2 ≠ oa_72_81 := Nat.ne_of_lt (Nat.lt_of_lt_of_le F71.lt B81_4)
    have ne115 : sa3 ≠ oa_72_81 := Nat.ne_of_lt (Nat.lt_of_lt_of_le F72.lt B81_4)
    have ne116 : pop ≠ oa_72_81 := Nat.ne_of_lt (Nat.lt_of_lt_of_le A63.lt B81_4)
    have fr117 : n0 ≤ oa_72_81 := Nat.le_trans Z73 B81_4
    have ne118 : sa0 ≠ na_72_81 := Nat.ne_of_lt (Nat.lt_of_lt_of_le F69.lt B81_5)
    have ne119 : sa1 ≠ na_72_81 := Nat.ne_of_lt (Nat.lt_of_lt_of_le F70.lt B81_5)
    have ne120 : sa2 ≠ na_72_81 := Nat.ne_of_lt (Nat.lt_of_lt_of_le F71.lt B81_5)
    have ne121 : sa3 ≠ na_72_81 := Nat.ne_of_lt (Nat.lt_of_lt_of_le F72.lt B81_5)
    have ne122 : pop ≠ na_72_81 := Nat.ne_of_lt (Nat.lt_of_lt_of_le A63.lt B81_5)
    have fr123 : n0 ≤ na_72_81 := Nat.le_trans Z73 B81_5
    show Own.Go p e below s n0 _ _ _ (T81.setTop (mkF m 75 _ [.ref pop]))
    clear A63 F69 F70 F71 F72 F74 F75 F76 F77 F78 F79 F80 X63
    refine Own.astore X81 at_75 rfl (l' := #[.val (.int i0), .val (.int i1), .val (.int i2), .val (.int i3), .val (.int i4), .val (.int (1 : Int32)), .val (.int (0 : Int32)), .val (.ref sa0), .val (.ref sa1), .val (.ref sa2), .val (.ref sa3), .val (.ref pop), .unset, .unset, .unset, .unset]) rfl ?_
    refine Own.aload X81 at_77 rfl rfl ?_
    refine Own.aload X81 at_79 rfl rfl ?_
    refine Own.iloadN X81 at_81 rfl ?_
    obtain ⟨d82, e_d82⟩ : ∃ v, FP.i2d i0 = v := ⟨_, rfl⟩
    obtain ⟨f_d82, z_d82⟩ := Own.i2d_v e_d82
    have n_d82 := f_d82.noNaN
    refine Own.i2d X81 at_82 e_d82 ?_
    refine Own.callV_ (y := mn_3) (z := mn_3) (a := pop) X81 at_83 (Own.wd hw 20 rfl) (Own.wd hw 21 rfl) (Own.wd hw 23 rfl) (Own.wd hw 22 rfl) rfl (Own.wd hw 3 rfl) (Own.wd hw 24 rfl) (by decide) F86 (rm3_00000 l Z a0 hw pop sa0 d82 pl_72_81 oa_72_81 na_72_81 x0_72_81 x1_72_81 x2_72_81 k_pl_72_81 c_pl_72_81 k_oa_72_81 k_na_72_81 0 0 0 (0 : Int64) (0 : Int64) (0 : Int64) (0 : Int64) k_sa0 (0 : Int32) (0 : Int32) h81 n0 Z87 F86 G81_0 G81_1 G81_2 G81_3 G81_4 G81_5 G81_6 G81_7 G81_8 G81_11 G81_12 F82 ne92 ne116 ne122 ne98 ne104 ne110 U81_3 U81_4 U81_0 U81_1 U81_2 U81_14 (Ne.symm U81_7) (Ne.symm U81_10) (Ne.symm U81_12) (Ne.symm U81_8) (Ne.symm U81_11) (Ne.symm U81_13) U81_5 U81_6 U81_9 ne64 ne88 ne112 ne118 ne94 ne100 ne106 fr68 fr99 fr105 fr111 fr117 fr123 n_d82 ) (lenOf pd_13 rfl) rfl (argsL := [.ref sa0, .double d82]) (rest := []) rfl (W := 0) (Nat.le_of_eq rfl) (by decide) (by decide) (by decide) (by decide) fun T124 h124 v124 X124 q124 => ?_
    obtain ⟨rfl, K124, G124_0, G124_1, G124_2, G124_3, G124_4, G124_5, G124_6, G124_7, G124_8, G124_9⟩ := q124
    have F125 := F82.keep K124 (ninS ne64 (ninS ne94 (ninS ne112 (ninS ne118 nin0))))
    have F126 := F83.keep K124 (ninS ne65 (ninS ne95 (ninS ne113 (ninS ne119 nin0))))
    have F127 := F84.keep K124 (ninS ne66 (ninS ne96 (ninS ne114 (ninS ne120 nin0))))
    have F128 := F85.keep K124 (ninS ne67 (ninS ne97 (ninS ne115 (ninS ne121 nin0))))
    have F129 := F86.keep K124
    have F130 := G81_7.keep K124 (ninS (Ne.symm ne92) (ninS U81_0 (ninS U81_3 (ninS U81_4 nin0))))
    have F131 := G81_9.keep K124 (ninS (Ne.symm ne104) (ninS (Ne.symm U81_5) (ninS U81_10 (ninS U81_11 nin0))))
    have F132 := G81_10.keep K124 (ninS (Ne.symm ne110) (ninS (Ne.symm U81_6) (ninS U81_12 (ninS U81_13 nin0))))
    have F133 := G81_13.keep K124
    have F134 := G81_14.keep K124
    have F135 := G81_15.keep K124
    have Z136 : n0 ≤ h124.size := Nat.le_trans Z87 K124.1
    show Own.Go p e below s n0 _ _ _ (T124.setTop (mkF m 86 _ []))
    clear F82 F83 F84 F85 F86 G81_0 G81_1 G81_10 G81_11 G81_12 G81_13 G81_14 G81_15 G81_2 G81_3 G81_4 G81_5 G81_6 G81_7 G81_8 G81_9 X81
    refine Own.iload X124 at_86 rfl ?_
    refine Own.iconst X124 (v := 1) at_88 rfl ?_
    refine Own.icmp_ X124 (pc' := 101) at_89 (by decide) (fun _ => ?_) (fun q => absurd (show (1 : Int) ≤ (1 : Int) from by decide) q)
    refine Own.iload X124 at_101 rfl ?_
    refine Own.iconst X124 (v := 2) at_103 rfl ?_
    refine Own.icmp_ X124 (pc' := 116) at_104 (by decide) (fun _ => ?_) (fun q => absurd (show (1 : Int) ≤ (2 : Int) from by decide) q)
    refine Own.iconst X124 (v := 0) at_116 rfl ?_
    refine Own.istore X124 at_117 (l' := #[.val (.int i0), .val (.int i1), .val (.int i2), .val (.int i3), .val (.int i4), .val (.int (1 : Int32)), .val (.int (0 : Int32)), .val (.ref sa0), .val (.ref sa1), .val (.ref sa2), .val (.ref sa3), .val (.ref pop), .val (.int (0 : Int32)), .unset, .unset, .unset]) rfl ?_
    refine Own.iloadN X124 at_119 rfl ?_
    refine Own.istore X124 at_120 (l' := #[.val (.int i0), .val (.int i1), .val (.int i2), .val (.int i3), .val (.int i4), .val (.int (1 : Int32)), .val (.int (0 : Int32)), .val (.ref sa0), .val (.ref sa1), .val (.ref sa2), .val (.ref sa3), .val (.ref pop), .val (.int (0 : Int32)), .val (.int i0), .unset, .unset]) rfl ?_
    refine Own.iload X124 at_122 rfl ?_
    refine Own.iconst X124 (v := 1) at_124 rfl ?_
    refine Own.icmp_ X124 (pc' := 140) at_125 (by decide) (fun _ => ?_) (fun q => absurd (show (1 : Int) ≤ (1 : Int) from by decide) q)
    refine Own.iload X124 at_140 rfl ?_
    refine Own.iconst X124 (v := 2) at_142 rfl ?_
    refine Own.icmp_ X124 (pc' := 158) at_143 (by decide) (fun _ => ?_) (fun q => absurd (show (1 : Int) ≤ (2 : Int) from by decide) q)
    refine Own.iload X124 at_158 rfl ?_
    refine Own.iff_ X124 (pc' := 182) at_160 (by decide) (fun _ => ?_) (fun q => absurd (show (0 : Int) = (0 : Int) from by decide) q)
    exact tl_00 l Z a0 hw (1 : Int32) (0 : Int32) i0 sa0 sa1 sa2 sa3 pl_72_81 x0_72_81 x1_72_81 x2_72_81 k_pl_72_81 c_pl_72_81 (X124.more (by decide) (by decide)) Z136 F129 G124_0 G124_6 F130 G124_7 F133
  · refine Own.iload X at_10 rfl ?_
    refine Own.iconst X (v := 3) at_12 rfl ?_
    refine Own.icmp_ X (pc' := 27) at_13 (by decide) (fun _ => ?_) (fun q => absurd (show ¬ ((2 : Int) = (3 : Int)) from by decide) q)
    refine Own.iconst X (v := 0) at_27 rfl ?_
    refine Own.istore X at_28 (l' := #[.val (.int i0), .val (.int i1), .val (.int i2), .val (.int i3), .val (.int i4), .val (.int (2 : Int32)), .val (.int (0 : Int32)), .unset, .unset, .unset, .unset, .unset, .unset, .unset, .unset, .unset]) rfl ?_
    refine Own.iconst X (v := 1) at_30 rfl ?_
    refine Own.newP_ X (cap := 1) (ty := .int) (dv := .int (0 : Int32)) (ad := "[I") at_31 rfl rfl (by decide) (Own.wd hw 0 rfl) (by decide) (by decide) (by decide) (by decide) (by decide) fun T137 h137 sa0 k_sa0 g_sa0 X137 E137 V137 A137 => ?_
    have fr138 : n0 ≤ sa0 := Nat.le_trans Z0 (Nat.le_of_eq g_sa0.symm)
    have Z139 : n0 ≤ h137.size := Nat.le_trans Z0 E137.1
    have V140 : Arv Z h137 sa0 k_sa0 .int (1 : Int32) [.int (0 : Int32)] (.int (0 : Int32)) := V137.pad (pad_rep [] (.int (0 : Int32)) 1)
    clear X
    refine Own.dup X137 at_33 rfl ?_
    refine Own.iconst X137 (v := 0) at_34 rfl ?_
    refine Own.iconst X137 (v := 0) at_35 rfl ?_
    refine Own.iastore_ X137 (i := 0) at_36 V140 (by decide) rfl (Nat.le_of_ble_eq_true rfl) fr138 fun T141 h141 X141 W141 V141 => ?_
    have F142 := A137.wr W141
    have Z143 : n0 ≤ h141.size := by rw [W141.size]; exact Z139
    have V144 : Arv Z h141 sa0 k_sa0 .int (1 : Int32) [.int (0 : Int32)] (.int (0 : Int32)) := V141
    clear A137 V140 X137
    refine Own.astore X141 at_37 rfl (l' := #[.val (.int i0), .val (.int i1), .val (.int i2), .val (.int i3), .val (.int i4), .val (.int (2 : Int32)), .val (.int (0 : Int32)), .val (.ref sa0), .unset, .unset, .unset, .unset, .unset, .unset, .unset, .unset]) rfl ?_
    refine Own.iconst X141 (v := 1) at_39 rfl ?_
    refine Own.newP_ X141 (cap := 1) (ty := .int) (dv := .int (0 : Int32)) (ad := "[I") at_40 rfl rfl (by decide) (Own.wd hw 0 rfl) (by decide) (by decide) (by decide) (by decide) (by decide) fun T145 h145 sa1 k_sa1 g_sa1 X145 E145 V145 A145 => ?_
    have ne146 : sa0 ≠ sa1 := Nat.ne_of_lt (Nat.lt_of_lt_of_le F142.lt (Nat.le_of_eq g_sa1.symm))
    have fr147 : n0 ≤ sa1 := Nat.le_trans Z143 (Nat.le_of_eq g_sa1.symm)
    have F148 := F142.ext E145
    have F149 := V144.ext E145
    have Z150 : n0 ≤ h145.size := Nat.le_trans Z143 E145.1
    have V151 : Arv Z h145 sa1 k_sa1 .int (1 : Int32) [.int (0 : Int32)] (.int (0 : Int32)) := V145.pad (pad_rep [] (.int (0 : Int32)) 1)
    clear F142 V144 X141
    refine Own.dup X145 at_42 rfl ?_
    refine Own.iconst X145 (v := 0) at_43 rfl ?_
    refine Own.iconst X145 (v := 1) at_44 rfl ?_
    refine Own.iastore_ X145 (i := 0) at_45 V151 (by decide) rfl (Nat.le_of_ble_eq_true rfl) fr147 fun T152 h152 X152 W152 V152 => ?_
    have F153 := F148.wr W152
    have F154 := F149.other W152 ne146
    have F155 := A145.wr W152
    have Z156 : n0 ≤ h152.size := by rw [W152.size]; exact Z150
    have V157 : Arv Z h152 sa1 k_sa1 .int (1 : Int32) [.int (1 : Int32)] (.int (0 : Int32)) := V152
    clear A145 F148 F149 V151 X145
    refine Own.astore X152 at_46 rfl (l' := #[.val (.int i0), .val (.int i1), .val (.int i2), .val (.int i3), .val (.int i4), .val (.int (2 : Int32)), .val (.int (0 : Int32)), .val (.ref sa0), .val (.ref sa1), .unset, .unset, .unset, .unset, .unset, .unset, .unset]) rfl ?_
    refine Own.iconst X152 (v := 1) at_48 rfl ?_
    refine Own.newP_ X152 (cap := 1) (ty := .int) (dv := .int (0 : Int32)) (ad := "[I") at_49 rfl rfl (by decide) (Own.wd hw 0 rfl) (by decide) (by decide) (by decide) (by decide) (by decide) fun T158 h158 sa2 k_sa2 g_sa2 X158 E158 V158 A158 => ?_
    have ne159 : sa0 ≠ sa2 := Nat.ne_of_lt (Nat.lt_of_lt_of_le F153.lt (Nat.le_of_eq g_sa2.symm))
    have ne160 : sa1 ≠ sa2 := Nat.ne_of_lt (Nat.lt_of_lt_of_le F155.lt (Nat.le_of_eq g_sa2.symm))
    have fr161 : n0 ≤ sa2 := Nat.le_trans Z156 (Nat.le_of_eq g_sa2.symm)
    have F162 := F153.ext E158
    have F163 := F154.ext E158
    have F164 := F155.ext E158
    have F165 := V157.ext E158
    have Z166 : n0 ≤ h158.size := Nat.le_trans Z156 E158.1
    have V167 : Arv Z h158 sa2 k_sa2 .int (1 : Int32) [.int (0 : Int32)] (.int (0 : Int32)) := V158.pad (pad_rep [] (.int (0 : Int32)) 1)
    clear F153 F154 F155 V157 X152
    refine Own.dup X158 at_51 rfl ?_
    refine Own.iconst X158 (v := 0) at_52 rfl ?_
    refine Own.iconst X158 (v := 2) at_53 rfl ?_
    refine Own.iastore_ X158 (i := 0) at_54 V167 (by decide) rfl (Nat.le_of_ble_eq_true rfl) fr161 fun T168 h168 X168 W168 V168 => ?_
    have F169 := F162.wr W168
    have F170 := F163.other W168 ne159
    have F171 := F164.wr W168
    have F172 := F165.other W168 ne160
    have F173 := A158.wr W168
    have Z174 : n0 ≤ h168.size := by rw [W168.size]; exact Z166
    have V175 : Arv Z h168 sa2 k_sa2 .int (1 : Int32) [.int (2 : Int32)] (.int (0 : Int32)) := V168
    clear A158 F162 F163 F164 F165 V167 X158
    refine Own.astore X168 at_55 rfl (l' := #[.val (.int i0), .val (.int i1), .val (.int i2), .val (.int i3), .val (.int i4), .val (.int (2 : Int32)), .val (.int (0 : Int32)), .val (.ref sa0), .val (.ref sa1), .val (.ref sa2), .unset, .unset, .unset, .unset, .unset, .unset]) rfl ?_
    refine Own.iconst X168 (v := 1) at_57 rfl ?_
    refine Own.newP_ X168 (cap := 1) (ty := .int) (dv := .int (0 : Int32)) (ad := "[I") at_58 rfl rfl (by decide) (Own.wd hw 0 rfl) (by decide) (by decide) (by decide) (by decide) (by decide) fun T176 h176 sa3 k_sa3 g_sa3 X176 E176 V176 A176 => ?_
    have ne177 : sa0 ≠ sa3 := Nat.ne_of_lt (Nat.lt_of_lt_of_le F169.lt (Nat.le_of_eq g_sa3.symm))
    have ne178 : sa1 ≠ sa3 := Nat.ne_of_lt (Nat.lt_of_lt_of_le F171.lt (Nat.le_of_eq g_sa3.symm))
    have ne179 : sa2 ≠ sa3 := Nat.ne_of_lt (Nat.lt_of_lt_of_le F173.lt (Nat.le_of_eq g_sa3.symm))
    have fr180 : n0 ≤ sa3 := Nat.le_trans Z174 (Nat.le_of_eq g_sa3.symm)
    have F181 := F169.ext E176
    have F182 := F170.ext E176
    have F183 := F171.ext E176
    have F184 := F172.ext E176
    have F185 := F173.ext E176
    have F186 := V175.ext E176
    have Z187 : n0 ≤ h176.size := Nat.le_trans Z174 E176.1
    have V188 : Arv Z h176 sa3 k_sa3 .int (1 : Int32) [.int (0 : Int32)] (.int (0 : Int32)) := V176.pad (pad_rep [] (.int (0 : Int32)) 1)
    clear F169 F170 F171 F172 F173 V175 X168
    refine Own.dup X176 at_60 rfl ?_
    refine Own.iconst X176 (v := 0) at_61 rfl ?_
    refine Own.iconst X176 (v := 3) at_62 rfl ?_
    refine Own.iastore_ X176 (i := 0) at_63 V188 (by decide) rfl (Nat.le_of_ble_eq_true rfl) fr180 fun T189 h189 X189 W189 V189 => ?_
    have F190 := F181.wr W189
    have F191 := F182.other W189 ne177
    have F192 := F183.wr W189
    have F193 := F184.other W189 ne178
    have F194 := F185.wr W189
    have F195 := F186.other W189 ne179
    have F196 := A176.wr W189
    have Z197 : n0 ≤ h189.size := by rw [W189.size]; exact Z187
    have V198 : Arv Z h189 sa3 k_sa3 .int (1 : Int32) [.int (3 : Int32)] (.int (0 : Int32)) := V189
    clear A176 F181 F182 F183 F184 F185 F186 V188 X176
    refine Own.astore X189 at_64 rfl (l' := #[.val (.int i0), .val (.int i1), .val (.int i2), .val (.int i3), .val (.int i4), .val (.int (2 : Int32)), .val (.int (0 : Int32)), .val (.ref sa0), .val (.ref sa1), .val (.ref sa2), .val (.ref sa3), .unset, .unset, .unset, .unset, .unset]) rfl ?_
    refine Own.newO_ X189 at_66 (Own.wd hw 1 rfl) (Own.wd hw 2 rfl) (Own.wd hw 3 rfl) (by decide) (by decide) fun T199 h199 pop g_pop X199 E199 A199 D199 => ?_
    have ne200 : sa0 ≠ pop := Nat.ne_of_lt (Nat.lt_of_lt_of_le F191.lt (Nat.le_of_eq g_pop.symm))
    have ne201 : sa1 ≠ pop := Nat.ne_of_lt (Nat.lt_of_lt_of_le F193.lt (Nat.le_of_eq g_pop.symm))
    have ne202 : sa2 ≠ pop := Nat.ne_of_lt (Nat.lt_of_lt_of_le F195.lt (Nat.le_of_eq g_pop.symm))
    have ne203 : sa3 ≠ pop := Nat.ne_of_lt (Nat.lt_of_lt_of_le V198.lt (Nat.le_of_eq g_pop.symm))
    have fr204 : n0 ≤ pop := Nat.le_trans Z197 (Nat.le_of_eq g_pop.symm)
    have F205 := F191.ext E199
    have F206 := F193.ext E199
    have F207 := F195.ext E199
    have F208 := V198.ext E199
    have Z209 : n0 ≤ h199.size := Nat.le_trans Z197 E199.1
    have F210 : Fld Z h199 pop "com/example/allocus/allocus/method/Population" "plans" "[[I" (.null) := D199 (Or.inr (Own.wd hw 13 rfl)) (ty := (.array (.array .int))) (by decide)
    have F211 : Fld Z h199 pop "com/example/allocus/allocus/method/Population" "objectives" "[D" (.null) := D199 (Or.inr (Own.wd hw 16 rfl)) (ty := (.array .double)) (by decide)
    have F212 : Fld Z h199 pop "com/example/allocus/allocus/method/Population" "entered" "[J" (.null) := D199 (Or.inr (Own.wd hw 19 rfl)) (ty := (.array .long)) (by decide)
    have F213 : Fld Z h199 pop "com/example/allocus/allocus/method/Population" "count" "I" (.int (0 : Int32)) := D199 (Or.inl (Own.wd hw 26 rfl)) (ty := .int) (by decide)
    have F214 : Fld Z h199 pop "com/example/allocus/allocus/method/Population" "entries" "J" (.long (0 : Int64)) := D199 (Or.inl (Own.wd hw 36 rfl)) (ty := .long) (by decide)
    have F215 : Fld Z h199 pop "com/example/allocus/allocus/method/Population" "worst" "I" (.int (0 : Int32)) := D199 (Or.inl (Own.wd hw 38 rfl)) (ty := .int) (by decide)
    have F216 : Fld Z h199 pop "com/example/allocus/allocus/method/Population" "best" "I" (.int (0 : Int32)) := D199 (Or.inl (Own.wd hw 40 rfl)) (ty := .int) (by decide)
    clear F191 F193 F195 V198 X189
    refine Own.dup X199 at_69 rfl ?_
    refine Own.iconst X199 (v := 3) at_70 rfl ?_
    refine Own.iconst X199 (v := 1) at_71 rfl ?_
    refine Own.callI_ (y := mn_0) (a := pop) X199 at_72 rfl (Own.wd hw 4 rfl) (Own.wd hw 5 rfl) (Own.wd hw 3 rfl) (Own.wd hw 6 rfl) (by decide) (rm1 l Z a0 hw pop h199 n0 Z209 A199 F210 F211 F212 F213 F214 F215 F216 fr204 ) (lenOf pd_12 rfl) rfl (argsL := [.int (3 : Int32), .int (1 : Int32)]) (rest := [.ref pop]) rfl (W := 1) (Nat.le_of_eq rfl) (by decide) (by decide) (by decide) (by decide) fun T217 h217 v217 X217 q217 => ?_
    obtain ⟨pl_72_217, x0_72_217, x1_72_217, x2_72_217, oa_72_217, na_72_217, k_pl_72_217, c_pl_72_217, k_oa_72_217, k_na_72_217, rfl, K217, B217_0, B217_1, B217_2, B217_3, B217_4, B217_5, U217_0, U217_1, U217_2, U217_3, U217_4, U217_5, U217_6, U217_7, U217_8, U217_9, U217_10, U217_11, U217_12, U217_13, U217_14, G217_0, G217_1, G217_2, G217_3, G217_4, G217_5, G217_6, G217_7, G217_8, G217_9, G217_10, G217_11, G217_12, G217_13, G217_14, G217_15⟩ := q217
    have F218 := F205.keep K217 (ninS ne200 nin0)
    have F219 := F206.keep K217 (ninS ne201 nin0)
    have F220 := F207.keep K217 (ninS ne202 nin0)
    have F221 := F208.keep K217 (ninS ne203 nin0)
    have F222 := A199.keep K217
    have Z223 : n0 ≤ h217.size := Nat.le_trans Z209 K217.1
    have ne224 : sa0 ≠ pl_72_217 := Nat.ne_of_lt (Nat.lt_of_lt_of_le F205.lt B217_0)
    have ne225 : sa1 ≠ pl_72_217 := Nat.ne_of_lt (Nat.lt_of_lt_of_le F206.lt B217_0)
    have ne226 : sa2 ≠ pl_72_217 := Nat.ne_of_lt (Nat.lt_of_lt_of_le F207.lt B217_0)
    have ne227 : sa3 ≠ pl_72_217 := Nat.ne_of_lt (Nat.lt_of_lt_of_le F208.lt B217_0)
    have ne228 : pop ≠ pl_72_217 := Nat.ne_of_lt (Nat.lt_of_lt_of_le A199.lt B217_0)
    have fr229 : n0 ≤ pl_72_217 := Nat.le_trans Z209 B217_0
    have ne230 : sa0 ≠ x0_72_217 := Nat.ne_of_lt (Nat.lt_of_lt_of_le F205.lt B217_1)
    have ne231 : sa1 ≠ x0_72_217 := Nat.ne_of_lt (Nat.lt_of_lt_of_le F206.lt B217_1)
    have ne232 : sa2 ≠ x0_72_217 := Nat.ne_of_lt (Nat.lt_of_lt_of_le F207.lt B217_1)
    have ne233 : sa3 ≠ x0_72_217 := Nat.ne_of_lt (Nat.lt_of_lt_of_le F208.lt B217_1)
    have ne234 : pop ≠ x0_72_217 := Nat.ne_of_lt (Nat.lt_of_lt_of_le A199.lt B217_1)
    have fr235 : n0 ≤ x0_72_217 := Nat.le_trans Z209 B217_1
    have ne236 : sa0 ≠ x1_72_217 := Nat.ne_of_lt (Nat.lt_of_lt_of_le F205.lt B217_2)
    have ne237 : sa1 ≠ x1_72_217 := Nat.ne_of_lt (Nat.lt_of_lt_of_le F206.lt B217_2)
    have ne238 : sa2 ≠ x1_72_217 := Nat.ne_of_lt (Nat.lt_of_lt_of_le F207.lt B217_2)
    have ne239 : sa3 ≠ x1_72_217 := Nat.ne_of_lt (Nat.lt_of_lt_of_le F208.lt B217_2)
    have ne240 : pop ≠ x1_72_217 := Nat.ne_of_lt (Nat.lt_of_lt_of_le A199.lt B217_2)
    have fr241 : n0 ≤ x1_72_217 := Nat.le_trans Z209 B217_2
    have ne242 : sa0 ≠ x2_72_217 := Nat.ne_of_lt (Nat.lt_of_lt_of_le F205.lt B217_3)
    have ne243 : sa1 ≠ x2_72_217 := Nat.ne_of_lt (Nat.lt_of_lt_of_le F206.lt B217_3)
    have ne244 : sa2 ≠ x2_72_217 := Nat.ne_of_lt (Nat.lt_of_lt_of_le F207.lt B217_3)
    have ne245 : sa3 ≠ x2_72_217 := Nat.ne_of_lt (Nat.lt_of_lt_of_le F208.lt B217_3)
    have ne246 : pop ≠ x2_72_217 := Nat.ne_of_lt (Nat.lt_of_lt_of_le A199.lt B217_3)
    have fr247 : n0 ≤ x2_72_217 := Nat.le_trans Z209 B217_3
    have ne248 : sa0 ≠ oa_72_217 := Nat.ne_of_lt (Nat.lt_of_lt_of_le F205.lt B217_4)
    have ne249 : sa1 ≠ oa_72_217 := Nat.ne_of_lt (Nat.lt_of_lt_of_le F206.lt B217_4)
    have ne250 : sa2 ≠ oa_72_217 := Nat.ne_of_lt (Nat.lt_of_lt_of_le F207.lt B217_4)
    have ne251 : sa3 ≠ oa_72_217 := Nat.ne_of_lt (Nat.lt_of_lt_of_le F208.lt B217_4)
    have ne252 : pop ≠ oa_72_217 := Nat.ne_of_lt (Nat.lt_of_lt_of_le A199.lt B217_4)
    have fr253 : n0 ≤ oa_72_217 := Nat.le_trans Z209 B217_4
    have ne254 : sa0 ≠ na_72_217 := Nat.ne_of_lt (Nat.lt_of_lt_of_le F205.lt B217_5)
    have ne255 : sa1 ≠ na_72_217 := Nat.ne_of_lt (Nat.lt_of_lt_of_le F206.lt B217_5)
    have ne256 : sa2 ≠ na_72_217 := Nat.ne_of_lt (Nat.lt_of_lt_of_le F207.lt B217_5)
    have ne257 : sa3 ≠ na_72_217 := Nat.ne_of_lt (Nat.lt_of_lt_of_le F208.lt B217_5)
    have ne258 : pop ≠ na_72_217 := Nat.ne_of_lt (Nat.lt_of_lt_of_le A199.lt B217_5)
    have fr259 : n0 ≤ na_72_217 := Nat.le_trans Z209 B217_5
    show Own.Go p e below s n0 _ _ _ (T217.setTop (mkF m 75 _ [.ref pop]))
    clear A199 F205 F206 F207 F208 F210 F211 F212 F213 F214 F215 F216 X199
    refine Own.astore X217 at_75 rfl (l' := #[.val (.int i0), .val (.int i1), .val (.int i2), .val (.int i3), .val (.int i4), .val (.int (2 : Int32)), .val (.int (0 : Int32)), .val (.ref sa0), .val (.ref sa1), .val (.ref sa2), .val (.ref sa3), .val (.ref pop), .unset, .unset, .unset, .unset]) rfl ?_
    refine Own.aload X217 at_77 rfl rfl ?_
    refine Own.aload X217 at_79 rfl rfl ?_
    refine Own.iloadN X217 at_81 rfl ?_
    obtain ⟨d82, e_d82⟩ : ∃ v, FP.i2d i0 = v := ⟨_, rfl⟩
    obtain ⟨f_d82, z_d82⟩ := Own.i2d_v e_d82
    have n_d82 := f_d82.noNaN
    refine Own.i2d X217 at_82 e_d82 ?_
    refine Own.callV_ (y := mn_3) (z := mn_3) (a := pop) X217 at_83 (Own.wd hw 20 rfl) (Own.wd hw 21 rfl) (Own.wd hw 23 rfl) (Own.wd hw 22 rfl) rfl (Own.wd hw 3 rfl) (Own.wd hw 24 rfl) (by decide) F222 (rm3_00000 l Z a0 hw pop sa0 d82 pl_72_217 oa_72_217 na_72_217 x0_72_217 x1_72_217 x2_72_217 k_pl_72_217 c_pl_72_217 k_oa_72_217 k_na_72_217 0 0 0 (0 : Int64) (0 : Int64) (0 : Int64) (0 : Int64) k_sa0 (0 : Int32) (0 : Int32) h217 n0 Z223 F222 G217_0 G217_1 G217_2 G217_3 G217_4 G217_5 G217_6 G217_7 G217_8 G217_11 G217_12 F218 ne228 ne252 ne258 ne234 ne240 ne246 U217_3 U217_4 U217_0 U217_1 U217_2 U217_14 (Ne.symm U217_7) (Ne.symm U217_10) (Ne.symm U217_12) (Ne.symm U217_8) (Ne.symm U217_11) (Ne.symm U217_13) U217_5 U217_6 U217_9 ne200 ne224 ne248 ne254 ne230 ne236 ne242 fr204 fr235 fr241 fr247 fr253 fr259 n_d82 ) (lenOf pd_13 rfl) rfl (argsL := [.ref sa0, .double d82]) (rest := []) rfl (W := 0) (Nat.le_of_eq rfl) (by decide) (by decide) (by decide) (by decide) fun T260 h260 v260 X260 q260 => ?_
    obtain ⟨rfl, K260, G260_0, G260_1, G260_2, G260_3, G260_4, G260_5, G260_6, G260_7, G260_8, G260_9⟩ := q260
    have F261 := F218.keep K260 (ninS ne200 (ninS ne230 (ninS ne248 (ninS ne254 nin0))))
    have F262 := F219.keep K260 (ninS ne201 (ninS ne231 (ninS ne249 (ninS ne255 nin0))))
    have F263 := F220.keep K260 (ninS ne202 (ninS ne232 (ninS ne250 (ninS ne256 nin0))))
    have F264 := F221.keep K260 (ninS ne203 (ninS ne233 (ninS ne251 (ninS ne257 nin0))))
    have F265 := F222.keep K260
    have F266 := G217_7.keep K260 (ninS (Ne.symm ne228) (ninS U217_0 (ninS U217_3 (ninS U217_4 nin0))))
    have F267 := G217_9.keep K260 (ninS (Ne.symm ne240) (ninS (Ne.symm U217_5) (ninS U217_10 (ninS U217_11 nin0))))
    have F268 := G217_10.keep K260 (ninS (Ne.symm ne246) (ninS (Ne.symm U217_6) (ninS U217_12 (ninS U217_13 nin0))))
    have F269 := G217_13.keep K260
    have F270 := G217_14.keep K260
    have F271 := G217_15.keep K260
    have Z272 : n0 ≤ h260.size := Nat.le_trans Z223 K260.1
    show Own.Go p e below s n0 _ _ _ (T260.setTop (mkF m 86 _ []))
    clear F218 F219 F220 F221 F222 G217_0 G217_1 G217_10 G217_11 G217_12 G217_13 G217_14 G217_15 G217_2 G217_3 G217_4 G217_5 G217_6 G217_7 G217_8 G217_9 X217
    rcases own_two i0 i1 with gg | gg | gg
    · refine Own.iload X260 at_86 rfl ?_
      refine Own.iconst X260 (v := 1) at_88 rfl ?_
      refine Own.icmp_ X260 (pc' := 101) at_89 (by decide) (fun q => absurd (show (2 : Int) ≤ (1 : Int) from q) (show ¬ ((2 : Int) ≤ (1 : Int)) from by decide)) (fun _ => ?_)
      refine Own.aload X260 at_92 rfl rfl ?_
      refine Own.aload X260 at_94 rfl rfl ?_
      refine Own.iloadN X260 at_96 rfl ?_
      obtain ⟨d97, e_d97⟩ : ∃ v, FP.i2d i1 = v := ⟨_, rfl⟩
      obtain ⟨f_d97, z_d97⟩ := Own.i2d_v e_d97
      have n_d97 := f_d97.noNaN
      refine Own.i2d X260 at_97 e_d97 ?_
      refine Own.callV_ (y := mn_3) (z := mn_3) (a := pop) X260 at_98 (Own.wd hw 20 rfl) (Own.wd hw 21 rfl) (Own.wd hw 23 rfl) (Own.wd hw 22 rfl) rfl (Own.wd hw 3 rfl) (Own.wd hw 24 rfl) (by decide) F265 (rm3_10010 l Z a0 hw pop sa1 d97 pl_72_217 oa_72_217 na_72_217 x0_72_217 x1_72_217 x2_72_217 k_pl_72_217 c_pl_72_217 k_oa_72_217 k_na_72_217 d82 0 0 (0 : Int64) (0 : Int64) (0 : Int64) ((0 : Int64) + (1 : Int64)) k_sa1 (1 : Int32) (0 : Int32) h260 n0 Z272 F265 G260_0 G260_1 G260_2 G260_3 G260_4 G260_5 G260_6 F266 F267 G260_8 G260_9 F262 ne228 ne252 ne258 ne234 ne240 ne246 U217_3 U217_4 U217_0 U217_1 U217_2 U217_14 (Ne.symm U217_7) (Ne.symm U217_10) (Ne.symm U217_12) (Ne.symm U217_8) (Ne.symm U217_11) (Ne.symm U217_13) U217_5 U217_6 U217_9 ne201 ne225 ne249 ne255 ne231 ne237 ne243 fr204 fr235 fr241 fr247 fr253 fr259 n_d97 n_d82 (by rw [z_d82, z_d97]; exact Own.U_lt.mpr (by omega)) (by rw [z_d82, z_d97]; exact Own.U_le.mpr (by omega))) (lenOf pd_13 rfl) rfl (argsL := [.ref sa1, .double d97]) (rest := []) rfl (W := 0) (Nat.le_of_eq rfl) (by decide) (by decide) (by decide) (by decide) fun T273 h273 v273 X273 q273 => ?_
      obtain ⟨rfl, K273, G273_0, G273_1, G273_2, G273_3, G273_4, G273_5, G273_6, G273_7, G273_8, G273_9⟩ := q273
      have F274 := F261.keep K273 (ninS ne200 (ninS ne236 (ninS ne248 (ninS ne254 nin0))))
      have F275 := F262.keep K273 (ninS ne201 (ninS ne237 (ninS ne249 (ninS ne255 nin0))))
      have F276 := F263.keep K273 (ninS ne202 (ninS ne238 (ninS ne250 (ninS ne256 nin0))))
      have F277 := F264.keep K273 (ninS ne203 (ninS ne239 (ninS ne251 (ninS ne257 nin0))))
      have F278 := F265.keep K273
      have F279 := F266.keep K273 (ninS (Ne.symm ne228) (ninS U217_1 (ninS U217_3 (ninS U217_4 nin0))))
      have F280 := F268.keep K273 (ninS (Ne.symm ne246) (ninS (Ne.symm U217_9) (ninS U217_12 (ninS U217_13 nin0))))
      have F281 := F269.keep K273
      have F282 := F270.keep K273
      have F283 := F271.keep K273
      have F284 := G260_7.keep K273 (ninS (Ne.symm ne234) (ninS U217_5 (ninS U217_7 (ninS U217_8 nin0))))
      have Z285 : n0 ≤ h273.size := Nat.le_trans Z272 K273.1
      show Own.Go p e below s n0 _ _ _ (T273.setTop (mkF m 101 _ []))
      clear F261 F262 F263 F264 F265 F266 F267 F268 F269 F270 F271 G260_0 G260_1 G260_2 G260_3 G260_4 G260_5 G260_6 G260_7 G260_8 G260_9 X260
      refine Own.iload X273 at_101 rfl ?_
      refine Own.iconst X273 (v := 2) at_103 rfl ?_
      refine Own.icmp_ X273 (pc' := 116) at_104 (by decide) (fun _ => ?_) (fun q => absurd (show (2 : Int) ≤ (2 : Int) from by decide) q)
      refine Own.iconst X273 (v := 0) at_116 rfl ?_
      refine Own.istore X273 at_117 (l' := #[.val (.int i0), .val (.int i1), .val (.int i2), .val (.int i3), .val (.int i4), .val (.int (2 : Int32)), .val (.int (0 : Int32)), .val (.ref sa0), .val (.ref sa1), .val (.ref sa2), .val (.ref sa3), .val (.ref pop), .val (.int (0 : Int32)), .unset, .unset, .unset]) rfl ?_
      refine Own.iloadN X273 at_119 rfl ?_
      refine Own.istore X273 at_120 (l' := #[.val (.int i0), .val (.int i1), .val (.int i2), .val (.int i3), .val (.int i4), .val (.int (2 : Int32)), .val (.int (0 : Int32)), .val (.ref sa0), .val (.ref sa1), .val (.ref sa2), .val (.ref sa3), .val (.ref pop), .val (.int (0 : Int32)), .val (.int i0), .unset, .unset]) rfl ?_
      refine Own.iload X273 at_122 rfl ?_
      refine Own.iconst X273 (v := 1) at_124 rfl ?_
      refine Own.icmp_ X273 (pc' := 140) at_125 (by decide) (fun q => absurd (show (2 : Int) ≤ (1 : Int) from q) (show ¬ ((2 : Int) ≤ (1 : Int)) from by decide)) (fun _ => ?_)
      refine Own.iloadN X273 at_128 rfl ?_
      refine Own.iload X273 at_129 rfl ?_
      refine Own.icmp_ X273 (pc' := 140) at_131 (by decide) (fun _ => ?_) (fun q => absurd (show i0.toInt ≤ i1.toInt from by omega) q)
      refine Own.iload X273 at_140 rfl ?_
      refine Own.iconst X273 (v := 2) at_142 rfl ?_
      refine Own.icmp_ X273 (pc' := 158) at_143 (by decide) (fun _ => ?_) (fun q => absurd (show (2 : Int) ≤ (2 : Int) from by decide) q)
      refine Own.iload X273 at_158 rfl ?_
      refine Own.iff_ X273 (pc' := 182) at_160 (by decide) (fun _ => ?_) (fun q => absurd (show (0 : Int) = (0 : Int) from by decide) q)
      exact tl_00 l Z a0 hw (2 : Int32) (0 : Int32) i0 sa0 sa1 sa2 sa3 pl_72_217 x0_72_217 x1_72_217 x2_72_217 k_pl_72_217 c_pl_72_217 (X273.more (by decide) (by decide)) Z285 F278 G273_0 G273_6 F279 F284 F281
    · refine Own.iload X260 at_86 rfl ?_
      refine Own.iconst X260 (v := 1) at_88 rfl ?_
      refine Own.icmp_ X260 (pc' := 101) at_89 (by decide) (fun q => absurd (show (2 : Int) ≤ (1 : Int) from q) (show ¬ ((2 : Int) ≤ (1 : Int)) from by decide)) (fun _ => ?_)
      refine Own.aload X260 at_92 rfl rfl ?_
      refine Own.aload X260 at_94 rfl rfl ?_
      refine Own.iloadN X260 at_96 rfl ?_
      obtain ⟨d97, e_d97⟩ : ∃ v, FP.i2d i1 = v := ⟨_, rfl⟩
      obtain ⟨f_d97, z_d97⟩ := Own.i2d_v e_d97
      have n_d97 := f_d97.noNaN
      refine Own.i2d X260 at_97 e_d97 ?_
      refine Own.callV_ (y := mn_3) (z := mn_3) (a := pop) X260 at_98 (Own.wd hw 20 rfl) (Own.wd hw 21 rfl) (Own.wd hw 23 rfl) (Own.wd hw 22 rfl) rfl (Own.wd hw 3 rfl) (Own.wd hw 24 rfl) (by decide) F265 (rm3_10001 l Z a0 hw pop sa1 d97 pl_72_217 oa_72_217 na_72_217 x0_72_217 x1_72_217 x2_72_217 k_pl_72_217 c_pl_72_217 k_oa_72_217 k_na_72_217 d82 0 0 (0 : Int64) (0 : Int64) (0 : Int64) ((0 : Int64) + (1 : Int64)) k_sa1 (1 : Int32) (0 : Int32) h260 n0 Z272 F265 G260_0 G260_1 G260_2 G260_3 G260_4 G260_5 G260_6 F266 F267 G260_8 G260_9 F262 ne228 ne252 ne258 ne234 ne240 ne246 U217_3 U217_4 U217_0 U217_1 U217_2 U217_14 (Ne.symm U217_7) (Ne.symm U217_10) (Ne.symm U217_12) (Ne.symm U217_8) (Ne.symm U217_11) (Ne.symm U217_13) U217_5 U217_6 U217_9 ne201 ne225 ne249 ne255 ne231 ne237 ne243 fr204 fr235 fr241 fr247 fr253 fr259 n_d97 n_d82 (by rw [z_d97, z_d82]; exact Own.U_le.mpr (by omega)) (by rw [z_d97, z_d82]; exact Own.U_lt.mpr (by omega))) (lenOf pd_13 rfl) rfl (argsL := [.ref sa1, .double d97]) (rest := []) rfl (W := 0) (Nat.le_of_eq rfl) (by decide) (by decide) (by decide) (by decide) fun T286 h286 v286 X286 q286 => ?_
      obtain ⟨rfl, K286, G286_0, G286_1, G286_2, G286_3, G286_4, G286_5, G286_6, G286_7, G286_8, G286_9⟩ := q286
      have F287 := F261.keep K286 (ninS ne200 (ninS ne236 (ninS ne248 (ninS ne254 nin0))))
      have F288 := F262.keep K286 (ninS ne201 (ninS ne237 (ninS ne249 (ninS ne255 nin0))))
      have F289 := F263.keep K286 (ninS ne202 (ninS ne238 (ninS ne250 (ninS ne256 nin0))))
      have F290 := F264.keep K286 (ninS ne203 (ninS ne239 (ninS ne251 (ninS ne257 nin0))))
      have F291 := F265.keep K286
      have F292 := F266.keep K286 (ninS (Ne.symm ne228) (ninS U217_1 (ninS U217_3 (ninS U217_4 nin0))))
      have F293 := F268.keep K286 (ninS (Ne.symm ne246) (ninS (Ne.symm U217_9) (ninS U217_12 (ninS U217_13 nin0))))
      have F294 := F269.keep K286
      have F295 := F270.keep K286
      have F296 := F271.keep K286
      have F297 := G260_7.keep K286 (ninS (Ne.symm ne234) (ninS U217_5 (ninS U217_7 (ninS U217_8 nin0))))
      have Z298 : n0 ≤ h286.size := Nat.le_trans Z272 K286.1
      show Own.Go p e below s n0 _ _ _ (T286.setTop (mkF m 101 _ []))
      clear F261 F262 F263 F264 F265 F266 F267 F268 F269 F270 F271 G260_0 G260_1 G260_2 G260_3 G260_4 G260_5 G260_6 G260_7 G260_8 G260_9 X260
      refine Own.iload X286 at_101 rfl ?_
      refine Own.iconst X286 (v := 2) at_103 rfl ?_
      refine Own.icmp_ X286 (pc' := 116) at_104 (by decide) (fun _ => ?_) (fun q => absurd (show (2 : Int) ≤ (2 : Int) from by decide) q)
      refine Own.iconst X286 (v := 0) at_116 rfl ?_
      refine Own.istore X286 at_117 (l' := #[.val (.int i0), .val (.int i1), .val (.int i2), .val (.int i3), .val (.int i4), .val (.int (2 : Int32)), .val (.int (0 : Int32)), .val (.ref sa0), .val (.ref sa1), .val (.ref sa2), .val (.ref sa3), .val (.ref pop), .val (.int (0 : Int32)), .unset, .unset, .unset]) rfl ?_
      refine Own.iloadN X286 at_119 rfl ?_
      refine Own.istore X286 at_120 (l' := #[.val (.int i0), .val (.int i1), .val (.int i2), .val (.int i3), .val (.int i4), .val (.int (2 : Int32)), .val (.int (0 : Int32)), .val (.ref sa0), .val (.ref sa1), .val (.ref sa2), .val (.ref sa3), .val (.ref pop), .val (.int (0 : Int32)), .val (.int i0), .unset, .unset]) rfl ?_
      refine Own.iload X286 at_122 rfl ?_
      refine Own.iconst X286 (v := 1) at_124 rfl ?_
      refine Own.icmp_ X286 (pc' := 140) at_125 (by decide) (fun q => absurd (show (2 : Int) ≤ (1 : Int) from q) (show ¬ ((2 : Int) ≤ (1 : Int)) from by decide)) (fun _ => ?_)
      refine Own.iloadN X286 at_128 rfl ?_
      refine Own.iload X286 at_129 rfl ?_
      refine Own.icmp_ X286 (pc' := 140) at_131 (by decide) (fun q => absurd (show i0.toInt ≤ i1.toInt from q) (show ¬ (i0.toInt ≤ i1.toInt) from by omega)) (fun _ => ?_)
      refine Own.iconst X286 (v := 1) at_134 rfl ?_
      refine Own.istore X286 at_135 (l' := #[.val (.int i0), .val (.int i1), .val (.int i2), .val (.int i3), .val (.int i4), .val (.int (2 : Int32)), .val (.int (0 : Int32)), .val (.ref sa0), .val (.ref sa1), .val (.ref sa2), .val (.ref sa3), .val (.ref pop), .val (.int (1 : Int32)), .val (.int i0), .unset, .unset]) rfl ?_
      refine Own.iloadN X286 at_137 rfl ?_
      refine Own.istore X286 at_138 (l' := #[.val (.int i0), .val (.int i1), .val (.int i2), .val (.int i3), .val (.int i4), .val (.int (2 : Int32)), .val (.int (0 : Int32)), .val (.ref sa0), .val (.ref sa1), .val (.ref sa2), .val (.ref sa3), .val (.ref pop), .val (.int (1 : Int32)), .val (.int i1), .unset, .unset]) rfl ?_
      refine Own.iload X286 at_140 rfl ?_
      refine Own.iconst X286 (v := 2) at_142 rfl ?_
      refine Own.icmp_ X286 (pc' := 158) at_143 (by decide) (fun _ => ?_) (fun q => absurd (show (2 : Int) ≤ (2 : Int) from by decide) q)
      refine Own.iload X286 at_158 rfl ?_
      refine Own.iff_ X286 (pc' := 182) at_160 (by decide) (fun _ => ?_) (fun q => absurd (show (0 : Int) = (0 : Int) from by decide) q)
      exact tl_11 l Z a0 hw (2 : Int32) (0 : Int32) i1 sa0 sa1 sa2 sa3 pl_72_217 x0_72_217 x1_72_217 x2_72_217 k_pl_72_217 c_pl_72_217 (X286.more (by decide) (by decide)) Z298 F291 G286_0 G286_6 F292 G286_7 F295
    · refine Own.iload X260 at_86 rfl ?_
      refine Own.iconst X260 (v := 1) at_88 rfl ?_
      refine Own.icmp_ X260 (pc' := 101) at_89 (by decide) (fun q => absurd (show (2 : Int) ≤ (1 : Int) from q) (show ¬ ((2 : Int) ≤ (1 : Int)) from by decide)) (fun _ => ?_)
      refine Own.aload X260 at_92 rfl rfl ?_
      refine Own.aload X260 at_94 rfl rfl ?_
      refine Own.iloadN X260 at_96 rfl ?_
      obtain ⟨d97, e_d97⟩ : ∃ v, FP.i2d i1 = v := ⟨_, rfl⟩
      obtain ⟨f_d97, z_d97⟩ := Own.i2d_v e_d97
      have n_d97 := f_d97.noNaN
      refine Own.i2d X260 at_97 e_d97 ?_
      refine Own.callV_ (y := mn_3) (z := mn_3) (a := pop) X260 at_98 (Own.wd hw 20 rfl) (Own.wd hw 21 rfl) (Own.wd hw 23 rfl) (Own.wd hw 22 rfl) rfl (Own.wd hw 3 rfl) (Own.wd hw 24 rfl) (by decide) F265 (rm3_10000 l Z a0 hw pop sa1 d97 pl_72_217 oa_72_217 na_72_217 x0_72_217 x1_72_217 x2_72_217 k_pl_72_217 c_pl_72_217 k_oa_72_217 k_na_72_217 d82 0 0 (0 : Int64) (0 : Int64) (0 : Int64) ((0 : Int64) + (1 : Int64)) k_sa1 (1 : Int32) (0 : Int32) h260 n0 Z272 F265 G260_0 G260_1 G260_2 G260_3 G260_4 G260_5 G260_6 F266 F267 G260_8 G260_9 F262 ne228 ne252 ne258 ne234 ne240 ne246 U217_3 U217_4 U217_0 U217_1 U217_2 U217_14 (Ne.symm U217_7) (Ne.symm U217_10) (Ne.symm U217_12) (Ne.symm U217_8) (Ne.symm U217_11) (Ne.symm U217_13) U217_5 U217_6 U217_9 ne201 ne225 ne249 ne255 ne231 ne237 ne243 fr204 fr235 fr241 fr247 fr253 fr259 n_d97 n_d82 (by rw [z_d97, z_d82]; exact Own.U_le.mpr (by omega)) (by rw [z_d82, z_d97]; exact Own.U_le.mpr (by omega))) (lenOf pd_13 rfl) rfl (argsL := [.ref sa1, .double d97]) (rest := []) rfl (W := 0) (Nat.le_of_eq rfl) (by decide) (by decide) (by decide) (by decide) fun T299 h299 v299 X299 q299 => ?_
      obtain ⟨rfl, K299, G299_0, G299_1, G299_2, G299_3, G299_4, G299_5, G299_6, G299_7, G299_8, G299_9⟩ := q299
      have F300 := F261.keep K299 (ninS ne200 (ninS ne236 (ninS ne248 (ninS ne254 nin0))))
      have F301 := F262.keep K299 (ninS ne201 (ninS ne237 (ninS ne249 (ninS ne255 nin0))))
      have F302 := F263.keep K299 (ninS ne202 (ninS ne238 (ninS ne250 (ninS ne256 nin0))))
      have F303 := F264.keep K299 (ninS ne203 (ninS ne239 (ninS ne251 (ninS ne257 nin0))))
      have F304 := F265.keep K299
      have F305 := F266.keep K299 (ninS (Ne.symm ne228) (ninS U217_1 (ninS U217_3 (ninS U217_4 nin0))))
      have F306 := F268.keep K299 (ninS (Ne.symm ne246) (ninS (Ne.symm U217_9) (ninS U217_12 (ninS U217_13 nin0))))
      have F307 := F269.keep K299
      have F308 := F270.keep K299
      have F309 := F271.keep K299
      have F310 := G260_7.keep K299 (ninS (Ne.symm ne234) (ninS U217_5 (ninS U217_7 (ninS U217_8 nin0))))
      have Z311 : n0 ≤ h299.size := Nat.le_trans Z272 K299.1
      show Own.Go p e below s n0 _ _ _ (T299.setTop (mkF m 101 _ []))
      clear F261 F262 F263 F264 F265 F266 F267 F268 F269 F270 F271 G260_0 G260_1 G260_2 G260_3 G260_4 G260_5 G260_6 G260_7 G260_8 G260_9 X260
      refine Own.iload X299 at_101 rfl ?_
      refine Own.iconst X299 (v := 2) at_103 rfl ?_
      refine Own.icmp_ X299 (pc' := 116) at_104 (by decide) (fun _ => ?_) (fun q => absurd (show (2 : Int) ≤ (2 : Int) from by decide) q)
      refine Own.iconst X299 (v := 0) at_116 rfl ?_
      refine Own.istore X299 at_117 (l' := #[.val (.int i0), .val (.int i1), .val (.int i2), .val (.int i3), .val (.int i4), .val (.int (2 : Int32)), .val (.int (0 : Int32)), .val (.ref sa0), .val (.ref sa1), .val (.ref sa2), .val (.ref sa3), .val (.ref pop), .val (.int (0 : Int32)), .unset, .unset, .unset]) rfl ?_
      refine Own.iloadN X299 at_119 rfl ?_
      refine Own.istore X299 at_120 (l' := #[.val (.int i0), .val (.int i1), .val (.int i2), .val (.int i3), .val (.int i4), .val (.int (2 : Int32)), .val (.int (0 : Int32)), .val (.ref sa0), .val (.ref sa1), .val (.ref sa2), .val (.ref sa3), .val (.ref pop), .val (.int (0 : Int32)), .val (.int i0), .unset, .unset]) rfl ?_
      refine Own.iload X299 at_122 rfl ?_
      refine Own.iconst X299 (v := 1) at_124 rfl ?_
      refine Own.icmp_ X299 (pc' := 140) at_125 (by decide) (fun q => absurd (show (2 : Int) ≤ (1 : Int) from q) (show ¬ ((2 : Int) ≤ (1 : Int)) from by decide)) (fun _ => ?_)
      refine Own.iloadN X299 at_128 rfl ?_
      refine Own.iload X299 at_129 rfl ?_
      refine Own.icmp_ X299 (pc' := 140) at_131 (by decide) (fun _ => ?_) (fun q => absurd (show i0.toInt ≤ i1.toInt from by omega) q)
      refine Own.iload X299 at_140 rfl ?_
      refine Own.iconst X299 (v := 2) at_142 rfl ?_
      refine Own.icmp_ X299 (pc' := 158) at_143 (by decide) (fun _ => ?_) (fun q => absurd (show (2 : Int) ≤ (2 : Int) from by decide) q)
      refine Own.iload X299 at_158 rfl ?_
      refine Own.iff_ X299 (pc' := 182) at_160 (by decide) (fun _ => ?_) (fun q => absurd (show (0 : Int) = (0 : Int) from by decide) q)
      exact tl_00 l Z a0 hw (2 : Int32) (0 : Int32) i0 sa0 sa1 sa2 sa3 pl_72_217 x0_72_217 x1_72_217 x2_72_217 k_pl_72_217 c_pl_72_217 (X299.more (by decide) (by decide)) Z311 F304 G299_0 G299_6 F305 F310 F307
  · refine Own.iload X at_10 rfl ?_
    refine Own.iconst X (v := 3) at_12 rfl ?_
    refine Own.icmp_ X (pc' := 27) at_13 (by decide) (fun q => absurd (show ¬ ((3 : Int) = (3 : Int)) from q) (show ¬ (¬ ((3 : Int) = (3 : Int))) from fun z => z (by decide))) (fun _ => ?_)
    refine Own.iload X at_16 rfl ?_
    refine Own.iconst X (v := 4) at_18 rfl ?_
    refine Own.iand X at_19 ?_
    suffices J20_312 : ∀ (z28_312 : Int32), z28_312 = Own.bo (¬ ((i4 &&& (4 : Int32)).toInt = (0 : Int))) → Own.Go p e below s n0 (fun v _ => v = some (.int 1)) 40 128 (T.setTop (mkF m 28 #[.val (.int i0), .val (.int i1), .val (.int i2), .val (.int i3), .val (.int i4), .val (.int (3 : Int32)), .unset, .unset, .unset, .unset, .unset, .unset, .unset, .unset, .unset, .unset] [.int z28_312])) by
      refine Own.iff_ X (pc' := 27) at_20 (by decide) (fun (h20 : (i4 &&& (4 : Int32)).toInt = (0 : Int)) => ?_) (fun (h20 : ¬ ((i4 &&& (4 : Int32)).toInt = (0 : Int))) => ?_)
      · refine Own.iconst X (v := 0) at_27 rfl ?_
        exact J20_312 _ (Own.bo_f (fun q => q h20))
      · refine Own.iconst X (v := 1) at_23 rfl ?_
        refine Own.goto_ X (pc' := 28) at_24 (by decide) ?_
        exact J20_312 _ (Own.bo_t (h20))
    intro z28_312 e_z28_312
    subst e_z28_312
    refine Own.istore X at_28 (l' := #[.val (.int i0), .val (.int i1), .val (.int i2), .val (.int i3), .val (.int i4), .val (.int (3 : Int32)), .val (.int (Own.bo (¬ ((i4 &&& (4 : Int32)).toInt = (0 : Int))))), .unset, .unset, .unset, .unset, .unset, .unset, .unset, .unset, .unset]) rfl ?_
    refine Own.iconst X (v := 1) at_30 rfl ?_
    refine Own.newP_ X (cap := 1) (ty := .int) (dv := .int (0 : Int32)) (ad := "[I") at_31 rfl rfl (by decide) (Own.wd hw 0 rfl) (by decide) (by decide) (by decide) (by decide) (by decide) fun T313 h313 sa0 k_sa0 g_sa0 X313 E313 V313 A313 => ?_
    have fr314 : n0 ≤ sa0 := Nat.le_trans Z0 (Nat.le_of_eq g_sa0.symm)
    have Z315 : n0 ≤ h313.size := Nat.le_trans Z0 E313.1
    have V316 : Arv Z h313 sa0 k_sa0 .int (1 : Int32) [.int (0 : Int32)] (.int (0 : Int32)) := V313.pad (pad_rep [] (.int (0 : Int32)) 1)
    clear X
    refine Own.dup X313 at_33 rfl ?_
    refine Own.iconst X313 (v := 0) at_34 rfl ?_
    refine Own.iconst X313 (v := 0) at_35 rfl ?_
    refine Own.iastore_ X313 (i := 0) at_36 V316 (by decide) rfl (Nat.le_of_ble_eq_true rfl) fr314 fun T317 h317 X317 W317 V317 => ?_
    have F318 := A313.wr W317
    have Z319 : n0 ≤ h317.size := by rw [W317.size]; exact Z315
    have V320 : Arv Z h317 sa0 k_sa0 .int (1 : Int32) [.int (0 : Int32)] (.int (0 : Int32)) := V317
    clear A313 V316 X313
    refine Own.astore X317 at_37 rfl (l' := #[.val (.int i0), .val (.int i1), .val (.int i2), .val (.int i3), .val (.int i4), .val (.int (3 : Int32)), .val (.int (Own.bo (¬ ((i4 &&& (4 : Int32)).toInt = (0 : Int))))), .val (.ref sa0), .unset, .unset, .unset, .unset, .unset, .unset, .unset, .unset]) rfl ?_
    refine Own.iconst X317 (v := 1) at_39 rfl ?_
    refine Own.newP_ X317 (cap := 1) (ty := .int) (dv := .int (0 : Int32)) (ad := "[I") at_40 rfl rfl (by decide) (Own.wd hw 0 rfl) (by decide) (by decide) (by decide) (by decide) (by decide) fun T321 h321 sa1 k_sa1 g_sa1 X321 E321 V321 A321 => ?_
    have ne322 : sa0 ≠ sa1 := Nat.ne_of_lt (Nat.lt_of_lt_of_le F318.lt (Nat.le_of_eq g_sa1.symm))
    have fr323 : n0 ≤ sa1 := Nat.le_trans Z319 (Nat.le_of_eq g_sa1.symm)
    have F324 := F318.ext E321
    have F325 := V320.ext E321
    have Z326 : n0 ≤ h321.size := Nat.le_trans Z319 E321.1
    have V327 : Arv Z h321 sa1 k_sa1 .int (1 : Int32) [.int (0 : Int32)] (.int (0 : Int32)) := V321.pad (pad_rep [] (.int (0 : Int32)) 1)
    clear F318 V320 X317
    refine Own.dup X321 at_42 rfl ?_
    refine Own.iconst X321 (v := 0) at_43 rfl ?_
    refine Own.iconst X321 (v := 1) at_44 rfl ?_
    refine Own.iastore_ X321 (i := 0) at_45 V327 (by decide) rfl (Nat.le_of_ble_eq_true rfl) fr323 fun T328 h328 X328 W328 V328 => ?_
    have F329 := F324.wr W328
    have F330 := F325.other W328 ne322
    have F331 := A321.wr W328
    have Z332 : n0 ≤ h328.size := by rw [W328.size]; exact Z326
    have V333 : Arv Z h328 sa1 k_sa1 .int (1 : Int32) [.int (1 : Int32)] (.int (0 : Int32)) := V328
    clear A321 F324 F325 V327 X321
    refine Own.astore X328 at_46 rfl (l' := #[.val (.int i0), .val (.int i1), .val (.int i2), .val (.int i3), .val (.int i4), .val (.int (3 : Int32)), .val (.int (Own.bo (¬ ((i4 &&& (4 : Int32)).toInt = (0 : Int))))), .val (.ref sa0), .val (.ref sa1), .unset, .unset, .unset, .unset, .unset, .unset, .unset]) rfl ?_
    refine Own.iconst X328 (v := 1) at_48 rfl ?_
    refine Own.newP_ X328 (cap := 1) (ty := .int) (dv := .int (0 : Int32)) (ad := "[I") at_49 rfl rfl (by decide) (Own.wd hw 0 rfl) (by decide) (by decide) (by decide) (by decide) (by decide) fun T334 h334 sa2 k_sa2 g_sa2 X334 E334 V334 A334 => ?_
    have ne335 : sa0 ≠ sa2 := Nat.ne_of_lt (Nat.lt_of_lt_of_le F329.lt (Nat.le_of_eq g_sa2.symm))
    have ne336 : sa1 ≠ sa2 := Nat.ne_of_lt (Nat.lt_of_lt_of_le F331.lt (Nat.le_of_eq g_sa2.symm))
    have fr337 : n0 ≤ sa2 := Nat.le_trans Z332 (Nat.le_of_eq g_sa2.symm)
    have F338 := F329.ext E334
    have F339 := F330.ext E334
    have F340 := F331.ext E334
    have F341 := V333.ext E334
    have Z342 : n0 ≤ h334.size := Nat.le_trans Z332 E334.1
    have V343 : Arv Z h334 sa2 k_sa2 .int (1 : Int32) [.int (0 : Int32)] (.int (0 : Int32)) := V334.pad (pad_rep [] (.int (0 : Int32)) 1)
    clear F329 F330 F331 V333 X328
    refine Own.dup X334 at_51 rfl ?_
    refine Own.iconst X334 (v := 0) at_52 rfl ?_
    refine Own.iconst X334 (v := 2) at_53 rfl ?_
    refine Own.iastore_ X334 (i := 0) at_54 V343 (by decide) rfl (Nat.le_of_ble_eq_true rfl) fr337 fun T344 h344 X344 W344 V344 => ?_
    have F345 := F338.wr W344
    have F346 := F339.other W344 ne335
    have F347 := F340.wr W344
    have F348 := F341.other W344 ne336
    have F349 := A334.wr W344
    have Z350 : n0 ≤ h344.size := by rw [W344.size]; exact Z342
    have V351 : Arv Z h344 sa2 k_sa2 .int (1 : Int32) [.int (2 : Int32)] (.int (0 : Int32)) := V344
    clear A334 F338 F339 F340 F341 V343 X334
    refine Own.astore X344 at_55 rfl (l' := #[.val (.int i0), .val (.int i1), .val (.int i2), .val (.int i3), .val (.int i4), .val (.int (3 : Int32)), .val (.int (Own.bo (¬ ((i4 &&& (4 : Int32)).toInt = (0 : Int))))), .val (.ref sa0), .val (.ref sa1), .val (.ref sa2), .unset, .unset, .unset, .unset, .unset, .unset]) rfl ?_
    refine Own.iconst X344 (v := 1) at_57 rfl ?_
    refine Own.newP_ X344 (cap := 1) (ty := .int) (dv := .int (0 : Int32)) (ad := "[I") at_58 rfl rfl (by decide) (Own.wd hw 0 rfl) (by decide) (by decide) (by decide) (by decide) (by decide) fun T352 h352 sa3 k_sa3 g_sa3 X352 E352 V352 A352 => ?_
    have ne353 : sa0 ≠ sa3 := Nat.ne_of_lt (Nat.lt_of_lt_of_le F345.lt (Nat.le_of_eq g_sa3.symm))
    have ne354 : sa1 ≠ sa3 := Nat.ne_of_lt (Nat.lt_of_lt_of_le F347.lt (Nat.le_of_eq g_sa3.symm))
    have ne355 : sa2 ≠ sa3 := Nat.ne_of_lt (Nat.lt_of_lt_of_le F349.lt (Nat.le_of_eq g_sa3.symm))
    have fr356 : n0 ≤ sa3 := Nat.le_trans Z350 (Nat.le_of_eq g_sa3.symm)
    have F357 := F345.ext E352
    have F358 := F346.ext E352
    have F359 := F347.ext E352
    have F360 := F348.ext E352
    have F361 := F349.ext E352
    have F362 := V351.ext E352
    have Z363 : n0 ≤ h352.size := Nat.le_trans Z350 E352.1
    have V364 : Arv Z h352 sa3 k_sa3 .int (1 : Int32) [.int (0 : Int32)] (.int (0 : Int32)) := V352.pad (pad_rep [] (.int (0 : Int32)) 1)
    clear F345 F346 F347 F348 F349 V351 X344
    refine Own.dup X352 at_60 rfl ?_
    refine Own.iconst X352 (v := 0) at_61 rfl ?_
    refine Own.iconst X352 (v := 3) at_62 rfl ?_
    refine Own.iastore_ X352 (i := 0) at_63 V364 (by decide) rfl (Nat.le_of_ble_eq_true rfl) fr356 fun T365 h365 X365 W365 V365 => ?_
    have F366 := F357.wr W365
    have F367 := F358.other W365 ne353
    have F368 := F359.wr W365
    have F369 := F360.other W365 ne354
    have F370 := F361.wr W365
    have F371 := F362.other W365 ne355
    have F372 := A352.wr W365
    have Z373 : n0 ≤ h365.size := by rw [W365.size]; exact Z363
    have V374 : Arv Z h365 sa3 k_sa3 .int (1 : Int32) [.int (3 : Int32)] (.int (0 : Int32)) := V365
    clear A352 F357 F358 F359 F360 F361 F362 V364 X352
    refine Own.astore X365 at_64 rfl (l' := #[.val (.int i0), .val (.int i1), .val (.int i2), .val (.int i3), .val (.int i4), .val (.int (3 : Int32)), .val (.int (Own.bo (¬ ((i4 &&& (4 : Int32)).toInt = (0 : Int))))), .val (.ref sa0), .val (.ref sa1), .val (.ref sa2), .val (.ref sa3), .unset, .unset, .unset, .unset, .unset]) rfl ?_
    refine Own.newO_ X365 at_66 (Own.wd hw 1 rfl) (Own.wd hw 2 rfl) (Own.wd hw 3 rfl) (by decide) (by decide) fun T375 h375 pop g_pop X375 E375 A375 D375 => ?_
    have ne376 : sa0 ≠ pop := Nat.ne_of_lt (Nat.lt_of_lt_of_le F367.lt (Nat.le_of_eq g_pop.symm))
    have ne377 : sa1 ≠ pop := Nat.ne_of_lt (Nat.lt_of_lt_of_le F369.lt (Nat.le_of_eq g_pop.symm))
    have ne378 : sa2 ≠ pop := Nat.ne_of_lt (Nat.lt_of_lt_of_le F371.lt (Nat.le_of_eq g_pop.symm))
    have ne379 : sa3 ≠ pop := Nat.ne_of_lt (Nat.lt_of_lt_of_le V374.lt (Nat.le_of_eq g_pop.symm))
    have fr380 : n0 ≤ pop := Nat.le_trans Z373 (Nat.le_of_eq g_pop.symm)
    have F381 := F367.ext E375
    have F382 := F369.ext E375
    have F383 := F371.ext E375
    have F384 := V374.ext E375
    have Z385 : n0 ≤ h375.size := Nat.le_trans Z373 E375.1
    have F386 : Fld Z h375 pop "com/example/allocus/allocus/method/Population" "plans" "[[I" (.null) := D375 (Or.inr (Own.wd hw 13 rfl)) (ty := (.array (.array .int))) (by decide)
    have F387 : Fld Z h375 pop "com/example/allocus/allocus/method/Population" "objectives" "[D" (.null) := D375 (Or.inr (Own.wd hw 16 rfl)) (ty := (.array .double)) (by decide)
    have F388 : Fld Z h375 pop "com/example/allocus/allocus/method/Population" "entered" "[J" (.null) := D375 (Or.inr (Own.wd hw 19 rfl)) (ty := (.array .long)) (by decide)
    have F389 : Fld Z h375 pop "com/example/allocus/allocus/method/Population" "count" "I" (.int (0 : Int32)) := D375 (Or.inl (Own.wd hw 26 rfl)) (ty := .int) (by decide)
    have F390 : Fld Z h375 pop "com/example/allocus/allocus/method/Population" "entries" "J" (.long (0 : Int64)) := D375 (Or.inl (Own.wd hw 36 rfl)) (ty := .long) (by decide)
    have F391 : Fld Z h375 pop "com/example/allocus/allocus/method/Population" "worst" "I" (.int (0 : Int32)) := D375 (Or.inl (Own.wd hw 38 rfl)) (ty := .int) (by decide)
    have F392 : Fld Z h375 pop "com/example/allocus/allocus/method/Population" "best" "I" (.int (0 : Int32)) := D375 (Or.inl (Own.wd hw 40 rfl)) (ty := .int) (by decide)
    clear F367 F369 F371 V374 X365
    refine Own.dup X375 at_69 rfl ?_
    refine Own.iconst X375 (v := 3) at_70 rfl ?_
    refine Own.iconst X375 (v := 1) at_71 rfl ?_
    refine Own.callI_ (y := mn_0) (a := pop) X375 at_72 rfl (Own.wd hw 4 rfl) (Own.wd hw 5 rfl) (Own.wd hw 3 rfl) (Own.wd hw 6 rfl) (by decide) (rm1 l Z a0 hw pop h375 n0 Z385 A375 F386 F387 F388 F389 F390 F391 F392 fr380 ) (lenOf pd_12 rfl) rfl (argsL := [.int (3 : Int32), .int (1 : Int32)]) (rest := [.ref pop]) rfl (W := 1) (Nat.le_of_eq rfl) (by decide) (by decide) (by decide) (by decide) fun T393 h393 v393 X393 q393 => ?_
    obtain ⟨pl_72_393, x0_72_393, x1_72_393, x2_72_393, oa_72_393, na_72_393, k_pl_72_393, c_pl_72_393, k_oa_72_393, k_na_72_393, rfl, K393, B393_0, B393_1, B393_2, B393_3, B393_4, B393_5, U393_0, U393_1, U393_2, U393_3, U393_4, U393_5, U393_6, U393_7, U393_8, U393_9, U393_10, U393_11, U393_12, U393_13, U393_14, G393_0, G393_1, G393_2, G393_3, G393_4, G393_5, G393_6, G393_7, G393_8, G393_9, G393_10, G393_11, G393_12, G393_13, G393_14, G393_15⟩ := q393
    have F394 := F381.keep K393 (ninS ne376 nin0)
    have F395 := F382.keep K393 (ninS ne377 nin0)
    have F396 := F383.keep K393 (ninS ne378 nin0)
    have F397 := F384.keep K393 (ninS ne379 nin0)
    have F398 := A375.keep K393
    have Z399 : n0 ≤ h393.size := Nat.le_trans Z385 K393.1
    have ne400 : sa0 ≠ pl_72_393 := Nat.ne_of_lt (Nat.lt_of_lt_of_le F381.lt B393_0)
    have ne401 : sa1 ≠ pl_72_393 := Nat.ne_of_lt (Nat.lt_of_lt_of_le F382.lt B393_0)
    have ne402 : sa2 ≠ pl_72_393 := Nat.ne_of_lt (Nat.lt_of_lt_of_le F383.lt B393_0)
    have ne403 : sa3 ≠ pl_72_393 := Nat.ne_of_lt (Nat.lt_of_lt_of_le F384.lt B393_0)
    have ne404 : pop ≠ pl_72_393 := Nat.ne_of_lt (Nat.lt_of_lt_of_le A375.lt B393_0)
    have fr405 : n0 ≤ pl_72_393 := Nat.le_trans Z385 B393_0
    have ne406 : sa0 ≠ x0_72_393 := Nat.ne_of_lt (Nat.lt_of_lt_of_le F381.lt B393_1)
    have ne407 : sa1 ≠ x0_72_393 := Nat.ne_of_lt (Nat.lt_of_lt_of_le F382.lt B393_1)
    have ne408 : sa2 ≠ x0_72_393 := Nat.ne_of_lt (Nat.lt_of_lt_of_le F383.lt B393_1)
    have ne409 : sa3 ≠ x0_72_393 := Nat.ne_of_lt (Nat.lt_of_lt_of_le F384.lt B393_1)
    have ne410 : pop ≠ x0_72_393 := Nat.ne_of_lt (Nat.lt_of_lt_of_le A375.lt B393_1)
    have fr411 : n0 ≤ x0_72_393 := Nat.le_trans Z385 B393_1
    have ne412 : sa0 ≠ x1_72_393 := Nat.ne_of_lt (Nat.lt_of_lt_of_le F381.lt B393_2)
    have ne413 : sa1 ≠ x1_72_393 := Nat.ne_of_lt (Nat.lt_of_lt_of_le F382.lt B393_2)
    have ne414 : sa2 ≠ x1_72_393 := Nat.ne_of_lt (Nat.lt_of_lt_of_le F383.lt B393_2)
    have ne415 : sa3 ≠ x1_72_393 := Nat.ne_of_lt (Nat.lt_of_lt_of_le F384.lt B393_2)
    have ne416 : pop ≠ x1_72_393 := Nat.ne_of_lt (Nat.lt_of_lt_of_le A375.lt B393_2)
    have fr417 : n0 ≤ x1_72_393 := Nat.le_trans Z385 B393_2
    have ne418 : sa0 ≠ x2_72_393 := Nat.ne_of_lt (Nat.lt_of_lt_of_le F381.lt B393_3)
    have ne419 : sa1 ≠ x2_72_393 := Nat.ne_of_lt (Nat.lt_of_lt_of_le F382.lt B393_3)
    have ne420 : sa2 ≠ x2_72_393 := Nat.ne_of_lt (Nat.lt_of_lt_of_le F383.lt B393_3)
    have ne421 : sa3 ≠ x2_72_393 := Nat.ne_of_lt (Nat.lt_of_lt_of_le F384.lt B393_3)
    have ne422 : pop ≠ x2_72_393 := Nat.ne_of_lt (Nat.lt_of_lt_of_le A375.lt B393_3)
    have fr423 : n0 ≤ x2_72_393 := Nat.le_trans Z385 B393_3
    have ne424 : sa0 ≠ oa_72_393 := Nat.ne_of_lt (Nat.lt_of_lt_of_le F381.lt B393_4)
    have ne425 : sa1 ≠ oa_72_393 := Nat.ne_of_lt (Nat.lt_of_lt_of_le F382.lt B393_4)
    have ne426 : sa2 ≠ oa_72_393 := Nat.ne_of_lt (Nat.lt_of_lt_of_le F383.lt B393_4)
    have ne427 : sa3 ≠ oa_72_393 := Nat.ne_of_lt (Nat.lt_of_lt_of_le F384.lt B393_4)
    have ne428 : pop ≠ oa_72_393 := Nat.ne_of_lt (Nat.lt_of_lt_of_le A375.lt B393_4)
    have fr429 : n0 ≤ oa_72_393 := Nat.le_trans Z385 B393_4
    have ne430 : sa0 ≠ na_72_393 := Nat.ne_of_lt (Nat.lt_of_lt_of_le F381.lt B393_5)
    have ne431 : sa1 ≠ na_72_393 := Nat.ne_of_lt (Nat.lt_of_lt_of_le F382.lt B393_5)
    have ne432 : sa2 ≠ na_72_393 := Nat.ne_of_lt (Nat.lt_of_lt_of_le F383.lt B393_5)
    have ne433 : sa3 ≠ na_72_393 := Nat.ne_of_lt (Nat.lt_of_lt_of_le F384.lt B393_5)
    have ne434 : pop ≠ na_72_393 := Nat.ne_of_lt (Nat.lt_of_lt_of_le A375.lt B393_5)
    have fr435 : n0 ≤ na_72_393 := Nat.le_trans Z385 B393_5
    show Own.Go p e below s n0 _ _ _ (T393.setTop (mkF m 75 _ [.ref pop]))
    clear A375 F381 F382 F383 F384 F386 F387 F388 F389 F390 F391 F392 X375
    refine Own.astore X393 at_75 rfl (l' := #[.val (.int i0), .val (.int i1), .val (.int i2), .val (.int i3), .val (.int i4), .val (.int (3 : Int32)), .val (.int (Own.bo (¬ ((i4 &&& (4 : Int32)).toInt = (0 : Int))))), .val (.ref sa0), .val (.ref sa1), .val (.ref sa2), .val (.ref sa3), .val (.ref pop), .unset, .unset, .unset, .unset]) rfl ?_
    refine Own.aload X393 at_77 rfl rfl ?_
    refine Own.aload X393 at_79 rfl rfl ?_
    refine Own.iloadN X393 at_81 rfl ?_
    obtain ⟨d82, e_d82⟩ : ∃ v, FP.i2d i0 = v := ⟨_, rfl⟩
    obtain ⟨f_d82, z_d82⟩ := Own.i2d_v e_d82
    have n_d82 := f_d82.noNaN
    refine Own.i2d X393 at_82 e_d82 ?_
    refine Own.callV_ (y := mn_3) (z := mn_3) (a := pop) X393 at_83 (Own.wd hw 20 rfl) (Own.wd hw 21 rfl) (Own.wd hw 23 rfl) (Own.wd hw 22 rfl) rfl (Own.wd hw 3 rfl) (Own.wd hw 24 rfl) (by decide) F398 (rm3_00000 l Z a0 hw pop sa0 d82 pl_72_393 oa_72_393 na_72_393 x0_72_393 x1_72_393 x2_72_393 k_pl_72_393 c_pl_72_393 k_oa_72_393 k_na_72_393 0 0 0 (0 : Int64) (0 : Int64) (0 : Int64) (0 : Int64) k_sa0 (0 : Int32) (0 : Int32) h393 n0 Z399 F398 G393_0 G393_1 G393_2 G393_3 G393_4 G393_5 G393_6 G393_7 G393_8 G393_11 G393_12 F394 ne404 ne428 ne434 ne410 ne416 ne422 U393_3 U393_4 U393_0 U393_1 U393_2 U393_14 (Ne.symm U393_7) (Ne.symm U393_10) (Ne.symm U393_12) (Ne.symm U393_8) (Ne.symm U393_11) (Ne.symm U393_13) U393_5 U393_6 U393_9 ne376 ne400 ne424 ne430 ne406 ne412 ne418 fr380 fr411 fr417 fr423 fr429 fr435 n_d82 ) (lenOf pd_13 rfl) rfl (argsL := [.ref sa0, .double d82]) (rest := []) rfl (W := 0) (Nat.le_of_eq rfl) (by decide) (by decide) (by decide) (by decide) fun T436 h436 v436 X436 q436 => ?_
    obtain ⟨rfl, K436, G436_0, G436_1, G436_2, G436_3, G436_4, G436_5, G436_6, G436_7, G436_8, G436_9⟩ := q436
    have F437 := F394.keep K436 (ninS ne376 (ninS ne406 (ninS ne424 (ninS ne430 nin0))))
    have F438 := F395.keep K436 (ninS ne377 (ninS ne407 (ninS ne425 (ninS ne431 nin0))))
    have F439 := F396.keep K436 (ninS ne378 (ninS ne408 (ninS ne426 (ninS ne432 nin0))))
    have F440 := F397.keep K436 (ninS ne379 (ninS ne409 (ninS ne427 (ninS ne433 nin0))))
    have F441 := F398.keep K436
    have F442 := G393_7.keep K436 (ninS (Ne.symm ne404) (ninS U393_0 (ninS U393_3 (ninS U393_4 nin0))))
    have F443 := G393_9.keep K436 (ninS (Ne.symm ne416) (ninS (Ne.symm U393_5) (ninS U393_10 (ninS U393_11 nin0))))
    have F444 := G393_10.keep K436 (ninS (Ne.symm ne422) (ninS (Ne.symm U393_6) (ninS U393_12 (ninS U393_13 nin0))))
    have F445 := G393_13.keep K436
    have F446 := G393_14.keep K436
    have F447 := G393_15.keep K436
    have Z448 : n0 ≤ h436.size := Nat.le_trans Z399 K436.1
    show Own.Go p e below s n0 _ _ _ (T436.setTop (mkF m 86 _ []))
    clear F394 F395 F396 F397 F398 G393_0 G393_1 G393_10 G393_11 G393_12 G393_13 G393_14 G393_15 G393_2 G393_3 G393_4 G393_5 G393_6 G393_7 G393_8 G393_9 X393
    rcases own_nine i0 i1 i2 with gg | gg | gg | gg | gg | gg | gg | gg | gg
    · refine Own.iload X436 at_86 rfl ?_
      refine Own.iconst X436 (v := 1) at_88 rfl ?_
      refine Own.icmp_ X436 (pc' := 101) at_89 (by decide) (fun q => absurd (show (3 : Int) ≤ (1 : Int) from q) (show ¬ ((3 : Int) ≤ (1 : Int)) from by decide)) (fun _ => ?_)
      refine Own.aload X436 at_92 rfl rfl ?_
      refine Own.aload X436 at_94 rfl rfl ?_
      refine Own.iloadN X436 at_96 rfl ?_
      obtain ⟨d97, e_d97⟩ : ∃ v, FP.i2d i1 = v := ⟨_, rfl⟩
      obtain ⟨f_d97, z_d97⟩ := Own.i2d_v e_d97
      have n_d97 := f_d97.noNaN
      refine Own.i2d X436 at_97 e_d97 ?_
      refine Own.callV_ (y := mn_3) (z := mn_3) (a := pop) X436 at_98 (Own.wd hw 20 rfl) (Own.wd hw 21 rfl) (Own.wd hw 23 rfl) (Own.wd hw 22 rfl) rfl (Own.wd hw 3 rfl) (Own.wd hw 24 rfl) (by decide) F441 (rm3_10010 l Z a0 hw pop sa1 d97 pl_72_393 oa_72_393 na_72_393 x0_72_393 x1_72_393 x2_72_393 k_pl_72_393 c_pl_72_393 k_oa_72_393 k_na_72_393 d82 0 0 (0 : Int64) (0 : Int64) (0 : Int64) ((0 : Int64) + (1 : Int64)) k_sa1 (1 : Int32) (0 : Int32) h436 n0 Z448 F441 G436_0 G436_1 G436_2 G436_3 G436_4 G436_5 G436_6 F442 F443 G436_8 G436_9 F438 ne404 ne428 ne434 ne410 ne416 ne422 U393_3 U393_4 U393_0 U393_1 U393_2 U393_14 (Ne.symm U393_7) (Ne.symm U393_10) (Ne.symm U393_12) (Ne.symm U393_8) (Ne.symm U393_11) (Ne.symm U393_13) U393_5 U393_6 U393_9 ne377 ne401 ne425 ne431 ne407 ne413 ne419 fr380 fr411 fr417 fr423 fr429 fr435 n_d97 n_d82 (by rw [z_d82, z_d97]; exact Own.U_lt.mpr (by omega)) (by rw [z_d82, z_d97]; exact Own.U_le.mpr (by omega))) (lenOf pd_13 rfl) rfl (argsL := [.ref sa1, .double d97]) (rest := []) rfl (W := 0) (Nat.le_of_eq rfl) (by decide) (by decide) (by decide) (by decide) fun T449 h449 v449 X449 q449 => ?_
      obtain ⟨rfl, K449, G449_0, G449_1, G449_2, G449_3, G449_4, G449_5, G449_6, G449_7, G449_8, G449_9⟩ := q449
      have F450 := F437.keep K449 (ninS ne376 (ninS ne412 (ninS ne424 (ninS ne430 nin0))))
      have F451 := F438.keep K449 (ninS ne377 (ninS ne413 (ninS ne425 (ninS ne431 nin0))))
      have F452 := F439.keep K449 (ninS ne378 (ninS ne414 (ninS ne426 (ninS ne432 nin0))))
      have F453 := F440.keep K449 (ninS ne379 (ninS ne415 (ninS ne427 (ninS ne433 nin0))))
      have F454 := F441.keep K449
      have F455 := F442.keep K449 (ninS (Ne.symm ne404) (ninS U393_1 (ninS U393_3 (ninS U393_4 nin0))))
      have F456 := F444.keep K449 (ninS (Ne.symm ne422) (ninS (Ne.symm U393_9) (ninS U393_12 (ninS U393_13 nin0))))
      have F457 := F445.keep K449
      have F458 := F446.keep K449
      have F459 := F447.keep K449
      have F460 := G436_7.keep K449 (ninS (Ne.symm ne410) (ninS U393_5 (ninS U393_7 (ninS U393_8 nin0))))
      have Z461 : n0 ≤ h449.size := Nat.le_trans Z448 K449.1
      show Own.Go p e below s n0 _ _ _ (T449.setTop (mkF m 101 _ []))
      clear F437 F438 F439 F440 F441 F442 F443 F444 F445 F446 F447 G436_0 G436_1 G436_2 G436_3 G436_4 G436_5 G436_6 G436_7 G436_8 G436_9 X436
      refine Own.iload X449 at_101 rfl ?_
      refine Own.iconst X449 (v := 2) at_103 rfl ?_
      refine Own.icmp_ X449 (pc' := 116) at_104 (by decide) (fun q => absurd (show (3 : Int) ≤ (2 : Int) from q) (show ¬ ((3 : Int) ≤ (2 : Int)) from by decide)) (fun _ => ?_)
      refine Own.aload X449 at_107 rfl rfl ?_
      refine Own.aload X449 at_109 rfl rfl ?_
      refine Own.iloadN X449 at_111 rfl ?_
      obtain ⟨d112, e_d112⟩ : ∃ v, FP.i2d i2 = v := ⟨_, rfl⟩
      obtain ⟨f_d112, z_d112⟩ := Own.i2d_v e_d112
      have n_d112 := f_d112.noNaN
      refine Own.i2d X449 at_112 e_d112 ?_
      refine Own.callV_ (y := mn_3) (z := mn_3) (a := pop) X449 at_113 (Own.wd hw 20 rfl) (Own.wd hw 21 rfl) (Own.wd hw 23 rfl) (Own.wd hw 22 rfl) rfl (Own.wd hw 3 rfl) (Own.wd hw 24 rfl) (by decide) F454 (rm3_21020 l Z a0 hw pop sa2 d112 pl_72_393 oa_72_393 na_72_393 x0_72_393 x1_72_393 x2_72_393 k_pl_72_393 c_pl_72_393 k_oa_72_393 k_na_72_393 d82 d97 0 (0 : Int64) ((0 : Int64) + (1 : Int64)) (0 : Int64) (((0 : Int64) + (1 : Int64)) + (1 : Int64)) k_sa2 (2 : Int32) (0 : Int32) h449 n0 Z461 F454 G449_0 G449_1 G449_2 G449_3 G449_4 G449_5 G449_6 F455 F456 G449_8 G449_9 F452 ne404 ne428 ne434 ne410 ne416 ne422 U393_3 U393_4 U393_0 U393_1 U393_2 U393_14 (Ne.symm U393_7) (Ne.symm U393_10) (Ne.symm U393_12) (Ne.symm U393_8) (Ne.symm U393_11) (Ne.symm U393_13) U393_5 U393_6 U393_9 ne378 ne402 ne426 ne432 ne408 ne414 ne420 fr380 fr411 fr417 fr423 fr429 fr435 n_d112 n_d82 n_d97 (by rw [z_d97, z_d112]; exact Own.U_lt.mpr (by omega)) (by rw [z_d82, z_d112]; exact Own.U_le.mpr (by omega))) (lenOf pd_13 rfl) rfl (argsL := [.ref sa2, .double d112]) (rest := []) rfl (W := 0) (Nat.le_of_eq rfl) (by decide) (by decide) (by decide) (by decide) fun T462 h462 v462 X462 q462 => ?_
      obtain ⟨rfl, K462, G462_0, G462_1, G462_2, G462_3, G462_4, G462_5, G462_6, G462_7, G462_8, G462_9⟩ := q462
      have F463 := F450.keep K462 (ninS ne376 (ninS ne418 (ninS ne424 (ninS ne430 nin0))))
      have F464 := F451.keep K462 (ninS ne377 (ninS ne419 (ninS ne425 (ninS ne431 nin0))))
      have F465 := F452.keep K462 (ninS ne378 (ninS ne420 (ninS ne426 (ninS ne432 nin0))))
      have F466 := F453.keep K462 (ninS ne379 (ninS ne421 (ninS ne427 (ninS ne433 nin0))))
      have F467 := F454.keep K462
      have F468 := F455.keep K462 (ninS (Ne.symm ne404) (ninS U393_2 (ninS U393_3 (ninS U393_4 nin0))))
      have F469 := F457.keep K462
      have F470 := F458.keep K462
      have F471 := F459.keep K462
      have F472 := F460.keep K462 (ninS (Ne.symm ne410) (ninS U393_6 (ninS U393_7 (ninS U393_8 nin0))))
      have F473 := G449_7.keep K462 (ninS (Ne.symm ne416) (ninS U393_9 (ninS U393_10 (ninS U393_11 nin0))))
      have Z474 : n0 ≤ h462.size := Nat.le_trans Z461 K462.1
      show Own.Go p e below s n0 _ _ _ (T462.setTop (mkF m 116 _ []))
      clear F450 F451 F452 F453 F454 F455 F456 F457 F458 F459 F460 G449_0 G449_1 G449_2 G449_3 G449_4 G449_5 G449_6 G449_7 G449_8 G449_9 X449
      refine Own.iconst X462 (v := 0) at_116 rfl ?_
      refine Own.istore X462 at_117 (l' := #[.val (.int i0), .val (.int i1), .val (.int i2), .val (.int i3), .val (.int i4), .val (.int (3 : Int32)), .val (.int (Own.bo (¬ ((i4 &&& (4 : Int32)).toInt = (0 : Int))))), .val (.ref sa0), .val (.ref sa1), .val (.ref sa2), .val (.ref sa3), .val (.ref pop), .val (.int (0 : Int32)), .unset, .unset, .unset]) rfl ?_
      refine Own.iloadN X462 at_119 rfl ?_
      refine Own.istore X462 at_120 (l' := #[.val (.int i0), .val (.int i1), .val (.int i2), .val (.int i3), .val (.int i4), .val (.int (3 : Int32)), .val (.int (Own.bo (¬ ((i4 &&& (4 : Int32)).toInt = (0 : Int))))), .val (.ref sa0), .val (.ref sa1), .val (.ref sa2), .val (.ref sa3), .val (.ref pop), .val (.int (0 : Int32)), .val (.int i0), .unset, .unset]) rfl ?_
      refine Own.iload X462 at_122 rfl ?_
      refine Own.iconst X462 (v := 1) at_124 rfl ?_
      refine Own.icmp_ X462 (pc' := 140) at_125 (by decide) (fun q => absurd (show (3 : Int) ≤ (1 : Int) from q) (show ¬ ((3 : Int) ≤ (1 : Int)) from by decide)) (fun _ => ?_)
      refine Own.iloadN X462 at_128 rfl ?_
      refine Own.iload X462 at_129 rfl ?_
      refine Own.icmp_ X462 (pc' := 140) at_131 (by decide) (fun _ => ?_) (fun q => absurd (show i0.toInt ≤ i1.toInt from by omega) q)
      refine Own.iload X462 at_140 rfl ?_
      refine Own.iconst X462 (v := 2) at_142 rfl ?_
      refine Own.icmp_ X462 (pc' := 158) at_143 (by decide) (fun q => absurd (show (3 : Int) ≤ (2 : Int) from q) (show ¬ ((3 : Int) ≤ (2 : Int)) from by decide)) (fun _ => ?_)
      refine Own.iloadN X462 at_146 rfl ?_
      refine Own.iload X462 at_147 rfl ?_
      refine Own.icmp_ X462 (pc' := 158) at_149 (by decide) (fun _ => ?_) (fun q => absurd (show i0.toInt ≤ i2.toInt from by omega) q)
      refine Own.iload X462 at_158 rfl ?_
      refine Own.ifeqB X462 (pc' := 182) at_160 (by decide) (fun (h160 : ¬ (¬ ((i4 &&& (4 : Int32)).toInt = (0 : Int)))) => ?_) (fun (h160 : ¬ ((i4 &&& (4 : Int32)).toInt = (0 : Int))) => ?_)
      · exact tl_00 l Z a0 hw (3 : Int32) (Own.bo (¬ ((i4 &&& (4 : Int32)).toInt = (0 : Int)))) i0 sa0 sa1 sa2 sa3 pl_72_393 x0_72_393 x1_72_393 x2_72_393 k_pl_72_393 c_pl_72_393 (X462.more (by decide) (by decide)) Z474 F467 G462_0 G462_6 F468 F472 F469
      · rcases own_off i3 i2 i0 with oo | oo | oo
        · refine Own.aload X462 at_163 rfl rfl ?_
          refine Own.aload X462 at_165 rfl rfl ?_
          refine Own.iloadN X462 at_167 rfl ?_
          obtain ⟨d168, e_d168⟩ : ∃ v, FP.i2d i3 = v := ⟨_, rfl⟩
          obtain ⟨f_d168, z_d168⟩ := Own.i2d_v e_d168
          have n_d168 := f_d168.noNaN
          refine Own.i2d X462 at_168 e_d168 ?_
          refine Own.callV_ (y := mn_11) (z := mn_11) (a := pop) X462 at_169 (Own.wd hw 55 rfl) (Own.wd hw 56 rfl) (Own.wd hw 58 rfl) (Own.wd hw 57 rfl) rfl (Own.wd hw 3 rfl) (Own.wd hw 59 rfl) (by decide) F467 (rm6_2N l Z a0 hw pop sa3 d168 pl_72_393 oa_72_393 na_72_393 x0_72_393 x1_72_393 x2_72_393 k_pl_72_393 c_pl_72_393 k_oa_72_393 k_na_72_393 d82 d97 d112 (0 : Int64) ((0 : Int64) + (1 : Int64)) (((0 : Int64) + (1 : Int64)) + (1 : Int64)) ((((0 : Int64) + (1 : Int64)) + (1 : Int64)) + (1 : Int64)) k_sa3 (3 : Int32) (0 : Int32) (0 : Int32) (1 : Int32) (2 : Int32) h462 n0 Z474 F467 G462_0 G462_1 G462_2 G462_3 G462_4 G462_5 G462_6 F468 F472 F473 G462_7 G462_8 G462_9 F466 ne404 ne428 ne434 ne410 ne416 ne422 U393_3 U393_4 U393_0 U393_1 U393_2 U393_14 (Ne.symm U393_7) (Ne.symm U393_10) (Ne.symm U393_12) (Ne.symm U393_8) (Ne.symm U393_11) (Ne.symm U393_13) U393_5 U393_6 U393_9 ne379 ne403 ne427 ne433 ne409 ne415 ne421 fr380 fr411 fr417 fr423 fr429 fr435 n_d168 n_d82 n_d97 n_d112 (by rw [z_d168, z_d112]; exact Own.U_lt.mpr (by omega)) d82 (by decide) rfl n_d82 (by rw [z_d168, z_d82]; exact Own.U_lt.mpr (by omega)) (by decide) (by decide) (by decide)) (lenOf pd_10 rfl) rfl (argsL := [.ref sa3, .double d168]) (rest := []) rfl (W := 0) (Nat.le_of_eq rfl) (by decide) (by decide) (by decide) (by decide) fun T475 h475 v475 X475 q475 => ?_
          obtain ⟨rfl, K475, G475_0, G475_1, G475_2⟩ := q475
          have F476 := F466.keep K475 (ninS ne379 (ninS ne421 (ninS ne427 (ninS ne433 nin0))))
          have F477 := F467.keep K475
          have F478 := F468.keep K475 (ninS (Ne.symm ne404) (ninS U393_2 (ninS U393_3 (ninS U393_4 nin0))))
          have F479 := F469.keep K475
          have F480 := F470.keep K475
          have F481 := F471.keep K475
          have F482 := F472.keep K475 (ninS (Ne.symm ne410) (ninS U393_6 (ninS U393_7 (ninS U393_8 nin0))))
          have F483 := F473.keep K475 (ninS (Ne.symm ne416) (ninS U393_9 (ninS U393_10 (ninS U393_11 nin0))))
          have Z484 : n0 ≤ h475.size := Nat.le_trans Z474 K475.1
          show Own.Go p e below s n0 _ _ _ (T475.setTop (mkF m 172 _ [.int (1 : Int32)]))
          clear F466 F467 F468 F469 F470 F471 F472 F473 G462_0 G462_1 G462_2 G462_3 G462_4 G462_5 G462_6 G462_7 G462_8 G462_9 X462
          refine Own.pop X475 at_172 rfl ?_
          refine Own.iloadN X475 at_173 rfl ?_
          refine Own.iload X475 at_174 rfl ?_
          refine Own.icmp_ X475 (pc' := 182) at_176 (by decide) (fun q => absurd (show i0.toInt ≤ i3.toInt from q) (show ¬ (i0.toInt ≤ i3.toInt) from by omega)) (fun _ => ?_)
          refine Own.iconst X475 (v := 3) at_179 rfl ?_
          refine Own.istore X475 at_180 (l' := #[.val (.int i0), .val (.int i1), .val (.int i2), .val (.int i3), .val (.int i4), .val (.int (3 : Int32)), .val (.int (Own.bo (¬ ((i4 &&& (4 : Int32)).toInt = (0 : Int))))), .val (.ref sa0), .val (.ref sa1), .val (.ref sa2), .val (.ref sa3), .val (.ref pop), .val (.int (3 : Int32)), .val (.int i0), .unset, .unset]) rfl ?_
          exact tl_23 l Z a0 hw (3 : Int32) (Own.bo (¬ ((i4 &&& (4 : Int32)).toInt = (0 : Int)))) i0 sa0 sa1 sa2 sa3 pl_72_393 x0_72_393 x1_72_393 x2_72_393 k_pl_72_393 c_pl_72_393 (X475.more (by decide) (by decide)) Z484 F477 G475_0 G475_1 F478 G475_2 F481
        · refine Own.aload X462 at_163 rfl rfl ?_
          refine Own.aload X462 at_165 rfl rfl ?_
          refine Own.iloadN X462 at_167 rfl ?_
          obtain ⟨d168, e_d168⟩ : ∃ v, FP.i2d i3 = v := ⟨_, rfl⟩
          obtain ⟨f_d168, z_d168⟩ := Own.i2d_v e_d168
          have n_d168 := f_d168.noNaN
          refine Own.i2d X462 at_168 e_d168 ?_
          refine Own.callV_ (y := mn_11) (z := mn_11) (a := pop) X462 at_169 (Own.wd hw 55 rfl) (Own.wd hw 56 rfl) (Own.wd hw 58 rfl) (Own.wd hw 57 rfl) rfl (Own.wd hw 3 rfl) (Own.wd hw 59 rfl) (by decide) F467 (rm6_2A l Z a0 hw pop sa3 d168 pl_72_393 oa_72_393 na_72_393 x0_72_393 x1_72_393 x2_72_393 k_pl_72_393 c_pl_72_393 k_oa_72_393 k_na_72_393 d82 d97 d112 (0 : Int64) ((0 : Int64) + (1 : Int64)) (((0 : Int64) + (1 : Int64)) + (1 : Int64)) ((((0 : Int64) + (1 : Int64)) + (1 : Int64)) + (1 : Int64)) k_sa3 (3 : Int32) (0 : Int32) (0 : Int32) (1 : Int32) (2 : Int32) h462 n0 Z474 F467 G462_0 G462_1 G462_2 G462_3 G462_4 G462_5 G462_6 F468 F472 F473 G462_7 G462_8 G462_9 F466 ne404 ne428 ne434 ne410 ne416 ne422 U393_3 U393_4 U393_0 U393_1 U393_2 U393_14 (Ne.symm U393_7) (Ne.symm U393_10) (Ne.symm U393_12) (Ne.symm U393_8) (Ne.symm U393_11) (Ne.symm U393_13) U393_5 U393_6 U393_9 ne379 ne403 ne427 ne433 ne409 ne415 ne421 fr380 fr411 fr417 fr423 fr429 fr435 n_d168 n_d82 n_d97 n_d112 (by rw [z_d168, z_d112]; exact Own.U_lt.mpr (by omega)) d82 (by decide) rfl n_d82 (by rw [z_d82, z_d168]; exact Own.U_le.mpr (by omega)) (by decide) (by decide) (by decide)) (lenOf pd_10 rfl) rfl (argsL := [.ref sa3, .double d168]) (rest := []) rfl (W := 0) (Nat.le_of_eq rfl) (by decide) (by decide) (by decide) (by decide) fun T485 h485 v485 X485 q485 => ?_
          obtain ⟨rfl, K485, G485_0, G485_1, G485_2⟩ := q485
          have F486 := F466.keep K485 (ninS ne379 (ninS ne421 (ninS ne427 (ninS ne433 nin0))))
          have F487 := F467.keep K485
          have F488 := F468.keep K485 (ninS (Ne.symm ne404) (ninS U393_2 (ninS U393_3 (ninS U393_4 nin0))))
          have F489 := F469.keep K485
          have F490 := F470.keep K485
          have F491 := F471.keep K485
          have F492 := F472.keep K485 (ninS (Ne.symm ne410) (ninS U393_6 (ninS U393_7 (ninS U393_8 nin0))))
          have F493 := F473.keep K485 (ninS (Ne.symm ne416) (ninS U393_9 (ninS U393_10 (ninS U393_11 nin0))))
          have Z494 : n0 ≤ h485.size := Nat.le_trans Z474 K485.1
          show Own.Go p e below s n0 _ _ _ (T485.setTop (mkF m 172 _ [.int (0 : Int32)]))
          clear F466 F467 F468 F469 F470 F471 F472 F473 G462_0 G462_1 G462_2 G462_3 G462_4 G462_5 G462_6 G462_7 G462_8 G462_9 X462
          refine Own.pop X485 at_172 rfl ?_
          refine Own.iloadN X485 at_173 rfl ?_
          refine Own.iload X485 at_174 rfl ?_
          refine Own.icmp_ X485 (pc' := 182) at_176 (by decide) (fun _ => ?_) (fun q => absurd (show i0.toInt ≤ i3.toInt from by omega) q)
          exact tl_00 l Z a0 hw (3 : Int32) (Own.bo (¬ ((i4 &&& (4 : Int32)).toInt = (0 : Int)))) i0 sa0 sa1 sa2 sa3 pl_72_393 x0_72_393 x1_72_393 x2_72_393 k_pl_72_393 c_pl_72_393 (X485.more (by decide) (by decide)) Z494 F487 G485_0 G485_1 F488 F492 F489
        · refine Own.aload X462 at_163 rfl rfl ?_
          refine Own.aload X462 at_165 rfl rfl ?_
          refine Own.iloadN X462 at_167 rfl ?_
          obtain ⟨d168, e_d168⟩ : ∃ v, FP.i2d i3 = v := ⟨_, rfl⟩
          obtain ⟨f_d168, z_d168⟩ := Own.i2d_v e_d168
          have n_d168 := f_d168.noNaN
          refine Own.i2d X462 at_168 e_d168 ?_
          refine Own.callV_ (y := mn_11) (z := mn_11) (a := pop) X462 at_169 (Own.wd hw 55 rfl) (Own.wd hw 56 rfl) (Own.wd hw 58 rfl) (Own.wd hw 57 rfl) rfl (Own.wd hw 3 rfl) (Own.wd hw 59 rfl) (by decide) F467 (rm6_2R l Z a0 hw pop sa3 d168 oa_72_393 k_oa_72_393 d82 d97 d112 h462 n0 Z474 G462_1 G462_5 G462_8 n_d168 n_d112 (by rw [z_d112, z_d168]; exact Own.U_le.mpr (by omega))) (lenOf pd_10 rfl) rfl (argsL := [.ref sa3, .double d168]) (rest := []) rfl (W := 0) (Nat.le_of_eq rfl) (by decide) (by decide) (by decide) (by decide) fun T495 h495 v495 X495 q495 => ?_
          obtain ⟨rfl, rfl⟩ := q495
          show Own.Go p e below s n0 _ _ _ (T495.setTop (mkF m 172 _ [.int (0 : Int32)]))
          clear X462
          refine Own.pop X495 at_172 rfl ?_
          refine Own.iloadN X495 at_173 rfl ?_
          refine Own.iload X495 at_174 rfl ?_
          refine Own.icmp_ X495 (pc' := 182) at_176 (by decide) (fun _ => ?_) (fun q => absurd (show i0.toInt ≤ i3.toInt from by omega) q)
          exact tl_00 l Z a0 hw (3 : Int32) (Own.bo (¬ ((i4 &&& (4 : Int32)).toInt = (0 : Int)))) i0 sa0 sa1 sa2 sa3 pl_72_393 x0_72_393 x1_72_393 x2_72_393 k_pl_72_393 c_pl_72_393 (X495.more (by decide) (by decide)) Z474 F467 G462_0 G462_6 F468 F472 F469
    · refine Own.iload X436 at_86 rfl ?_
      refine Own.iconst X436 (v := 1) at_88 rfl ?_
      refine Own.icmp_ X436 (pc' := 101) at_89 (by decide) (fun q => absurd (show (3 : Int) ≤ (1 : Int) from q) (show ¬ ((3 : Int) ≤ (1 : Int)) from by decide)) (fun _ => ?_)
      refine Own.aload X436 at_92 rfl rfl ?_
      refine Own.aload X436 at_94 rfl rfl ?_
      refine Own.iloadN X436 at_96 rfl ?_
      obtain ⟨d97, e_d97⟩ : ∃ v, FP.i2d i1 = v := ⟨_, rfl⟩
      obtain ⟨f_d97, z_d97⟩ := Own.i2d_v e_d97
      have n_d97 := f_d97.noNaN
      refine Own.i2d X436 at_97 e_d97 ?_
      refine Own.callV_ (y := mn_3) (z := mn_3) (a := pop) X436 at_98 (Own.wd hw 20 rfl) (Own.wd hw 21 rfl) (Own.wd hw 23 rfl) (Own.wd hw 22 rfl) rfl (Own.wd hw 3 rfl) (Own.wd hw 24 rfl) (by decide) F441 (rm3_10010 l Z a0 hw pop sa1 d97 pl_72_393 oa_72_393 na_72_393 x0_72_393 x1_72_393 x2_72_393 k_pl_72_393 c_pl_72_393 k_oa_72_393 k_na_72_393 d82 0 0 (0 : Int64) (0 : Int64) (0 : Int64) ((0 : Int64) + (1 : Int64)) k_sa1 (1 : Int32) (0 : Int32) h436 n0 Z448 F441 G436_0 G436_1 G436_2 G436_3 G436_4 G436_5 G436_6 F442 F443 G436_8 G436_9 F438 ne404 ne428 ne434 ne410 ne416 ne422 U393_3 U393_4 U393_0 U393_1 U393_2 U393_14 (Ne.symm U393_7) (Ne.symm U393_10) (Ne.symm U393_12) (Ne.symm U393_8) (Ne.symm U393_11) (Ne.symm U393_13) U393_5 U393_6 U393_9 ne377 ne401 ne425 ne431 ne407 ne413 ne419 fr380 fr411 fr417 fr423 fr429 fr435 n_d97 n_d82 (by rw [z_d82, z_d97]; exact Own.U_lt.mpr (by omega)) (by rw [z_d82, z_d97]; exact Own.U_le.mpr (by omega))) (lenOf pd_13 rfl) rfl (argsL := [.ref sa1, .double d97]) (rest := []) rfl (W := 0) (Nat.le_of_eq rfl) (by decide) (by decide) (by decide) (by decide) fun T496 h496 v496 X496 q496 => ?_
      obtain ⟨rfl, K496, G496_0, G496_1, G496_2, G496_3, G496_4, G496_5, G496_6, G496_7, G496_8, G496_9⟩ := q496
      have F497 := F437.keep K496 (ninS ne376 (ninS ne412 (ninS ne424 (ninS ne430 nin0))))
      have F498 := F438.keep K496 (ninS ne377 (ninS ne413 (ninS ne425 (ninS ne431 nin0))))
      have F499 := F439.keep K496 (ninS ne378 (ninS ne414 (ninS ne426 (ninS ne432 nin0))))
      have F500 := F440.keep K496 (ninS ne379 (ninS ne415 (ninS ne427 (ninS ne433 nin0))))
      have F501 := F441.keep K496
      have F502 := F442.keep K496 (ninS (Ne.symm ne404) (ninS U393_1 (ninS U393_3 (ninS U393_4 nin0))))
      have F503 := F444.keep K496 (ninS (Ne.symm ne422) (ninS (Ne.symm U393_9) (ninS U393_12 (ninS U393_13 nin0))))
      have F504 := F445.keep K496
      have F505 := F446.keep K496
      have F506 := F447.keep K496
      have F507 := G436_7.keep K496 (ninS (Ne.symm ne410) (ninS U393_5 (ninS U393_7 (ninS U393_8 nin0))))
      have Z508 : n0 ≤ h496.size := Nat.le_trans Z448 K496.1
      show Own.Go p e below s n0 _ _ _ (T496.setTop (mkF m 101 _ []))
      clear F437 F438 F439 F440 F441 F442 F443 F444 F445 F446 F447 G436_0 G436_1 G436_2 G436_3 G436_4 G436_5 G436_6 G436_7 G436_8 G436_9 X436
      refine Own.iload X496 at_101 rfl ?_
      refine Own.iconst X496 (v := 2) at_103 rfl ?_
      refine Own.icmp_ X496 (pc' := 116) at_104 (by decide) (fun q => absurd (show (3 : Int) ≤ (2 : Int) from q) (show ¬ ((3 : Int) ≤ (2 : Int)) from by decide)) (fun _ => ?_)
      refine Own.aload X496 at_107 rfl rfl ?_
      refine Own.aload X496 at_109 rfl rfl ?_
      refine Own.iloadN X496 at_111 rfl ?_
      obtain ⟨d112, e_d112⟩ : ∃ v, FP.i2d i2 = v := ⟨_, rfl⟩
      obtain ⟨f_d112, z_d112⟩ := Own.i2d_v e_d112
      have n_d112 := f_d112.noNaN
      refine Own.i2d X496 at_112 e_d112 ?_
      refine Own.callV_ (y := mn_3) (z := mn_3) (a := pop) X496 at_113 (Own.wd hw 20 rfl) (Own.wd hw 21 rfl) (Own.wd hw 23 rfl) (Own.wd hw 22 rfl) rfl (Own.wd hw 3 rfl) (Own.wd hw 24 rfl) (by decide) F501 (rm3_21012 l Z a0 hw pop sa2 d112 pl_72_393 oa_72_393 na_72_393 x0_72_393 x1_72_393 x2_72_393 k_pl_72_393 c_pl_72_393 k_oa_72_393 k_na_72_393 d82 d97 0 (0 : Int64) ((0 : Int64) + (1 : Int64)) (0 : Int64) (((0 : Int64) + (1 : Int64)) + (1 : Int64)) k_sa2 (2 : Int32) (0 : Int32) h496 n0 Z508 F501 G496_0 G496_1 G496_2 G496_3 G496_4 G496_5 G496_6 F502 F503 G496_8 G496_9 F499 ne404 ne428 ne434 ne410 ne416 ne422 U393_3 U393_4 U393_0 U393_1 U393_2 U393_14 (Ne.symm U393_7) (Ne.symm U393_10) (Ne.symm U393_12) (Ne.symm U393_8) (Ne.symm U393_11) (Ne.symm U393_13) U393_5 U393_6 U393_9 ne378 ne402 ne426 ne432 ne408 ne414 ne420 fr380 fr411 fr417 fr423 fr429 fr435 n_d112 n_d82 n_d97 (by rw [z_d112, z_d97]; exact Own.U_le.mpr (by omega)) (by rw [z_d112, z_d82]; exact Own.U_lt.mpr (by omega))) (lenOf pd_13 rfl) rfl (argsL := [.ref sa2, .double d112]) (rest := []) rfl (W := 0) (Nat.le_of_eq rfl) (by decide) (by decide) (by decide) (by decide) fun T509 h509 v509 X509 q509 => ?_
      obtain ⟨rfl, K509, G509_0, G509_1, G509_2, G509_3, G509_4, G509_5, G509_6, G509_7, G509_8, G509_9⟩ := q509
      have F510 := F497.keep K509 (ninS ne376 (ninS ne418 (ninS ne424 (ninS ne430 nin0))))
      have F511 := F498.keep K509 (ninS ne377 (ninS ne419 (ninS ne425 (ninS ne431 nin0))))
      have F512 := F499.keep K509 (ninS ne378 (ninS ne420 (ninS ne426 (ninS ne432 nin0))))
      have F513 := F500.keep K509 (ninS ne379 (ninS ne421 (ninS ne427 (ninS ne433 nin0))))
      have F514 := F501.keep K509
      have F515 := F502.keep K509 (ninS (Ne.symm ne404) (ninS U393_2 (ninS U393_3 (ninS U393_4 nin0))))
      have F516 := F504.keep K509
      have F517 := F505.keep K509
      have F518 := F506.keep K509
      have F519 := F507.keep K509 (ninS (Ne.symm ne410) (ninS U393_6 (ninS U393_7 (ninS U393_8 nin0))))
      have F520 := G496_7.keep K509 (ninS (Ne.symm ne416) (ninS U393_9 (ninS U393_10 (ninS U393_11 nin0))))
      have Z521 : n0 ≤ h509.size := Nat.le_trans Z508 K509.1
      show Own.Go p e below s n0 _ _ _ (T509.setTop (mkF m 116 _ []))
      clear F497 F498 F499 F500 F501 F502 F503 F504 F505 F506 F507 G496_0 G496_1 G496_2 G496_3 G496_4 G496_5 G496_6 G496_7 G496_8 G496_9 X496
      refine Own.iconst X509 (v := 0) at_116 rfl ?_
      refine Own.istore X509 at_117 (l' := #[.val (.int i0), .val (.int i1), .val (.int i2), .val (.int i3), .val (.int i4), .val (.int (3 : Int32)), .val (.int (Own.bo (¬ ((i4 &&& (4 : Int32)).toInt = (0 : Int))))), .val (.ref sa0), .val (.ref sa1), .val (.ref sa2), .val (.ref sa3), .val (.ref pop), .val (.int (0 : Int32)), .unset, .unset, .unset]) rfl ?_
      refine Own.iloadN X509 at_119 rfl ?_
      refine Own.istore X509 at_120 (l' := #[.val (.int i0), .val (.int i1), .val (.int i2), .val (.int i3), .val (.int i4), .val (.int (3 : Int32)), .val (.int (Own.bo (¬ ((i4 &&& (4 : Int32)).toInt = (0 : Int))))), .val (.ref sa0), .val (.ref sa1), .val (.ref sa2), .val (.ref sa3), .val (.ref pop), .val (.int (0 : Int32)), .val (.int i0), .unset, .unset]) rfl ?_
      refine Own.iload X509 at_122 rfl ?_
      refine Own.iconst X509 (v := 1) at_124 rfl ?_
      refine Own.icmp_ X509 (pc' := 140) at_125 (by decide) (fun q => absurd (show (3 : Int) ≤ (1 : Int) from q) (show ¬ ((3 : Int) ≤ (1 : Int)) from by decide)) (fun _ => ?_)
      refine Own.iloadN X509 at_128 rfl ?_
      refine Own.iload X509 at_129 rfl ?_
      refine Own.icmp_ X509 (pc' := 140) at_131 (by decide) (fun _ => ?_) (fun q => absurd (show i0.toInt ≤ i1.toInt from by omega) q)
      refine Own.iload X509 at_140 rfl ?_
      refine Own.iconst X509 (v := 2) at_142 rfl ?_
      refine Own.icmp_ X509 (pc' := 158) at_143 (by decide) (fun q => absurd (show (3 : Int) ≤ (2 : Int) from q) (show ¬ ((3 : Int) ≤ (2 : Int)) from by decide)) (fun _ => ?_)
      refine Own.iloadN X509 at_146 rfl ?_
      refine Own.iload X509 at_147 rfl ?_
      refine Own.icmp_ X509 (pc' := 158) at_149 (by decide) (fun q => absurd (show i0.toInt ≤ i2.toInt from q) (show ¬ (i0.toInt ≤ i2.toInt) from by omega)) (fun _ => ?_)
      refine Own.iconst X509 (v := 2) at_152 rfl ?_
      refine Own.istore X509 at_153 (l' := #[.val (.int i0), .val (.int i1), .val (.int i2), .val (.int i3), .val (.int i4), .val (.int (3 : Int32)), .val (.int (Own.bo (¬ ((i4 &&& (4 : Int32)).toInt = (0 : Int))))), .val (.ref sa0), .val (.ref sa1), .val (.ref sa2), .val (.ref sa3), .val (.ref pop), .val (.int (2 : Int32)), .val (.int i0), .unset, .unset]) rfl ?_
      refine Own.iloadN X509 at_155 rfl ?_
      refine Own.istore X509 at_156 (l' := #[.val (.int i0), .val (.int i1), .val (.int i2), .val (.int i3), .val (.int i4), .val (.int (3 : Int32)), .val (.int (Own.bo (¬ ((i4 &&& (4 : Int32)).toInt = (0 : Int))))), .val (.ref sa0), .val (.ref sa1), .val (.ref sa2), .val (.ref sa3), .val (.ref pop), .val (.int (2 : Int32)), .val (.int i2), .unset, .unset]) rfl ?_
      refine Own.iload X509 at_158 rfl ?_
      refine Own.ifeqB X509 (pc' := 182) at_160 (by decide) (fun (h160 : ¬ (¬ ((i4 &&& (4 : Int32)).toInt = (0 : Int)))) => ?_) (fun (h160 : ¬ ((i4 &&& (4 : Int32)).toInt = (0 : Int))) => ?_)
      · exact tl_22 l Z a0 hw (3 : Int32) (Own.bo (¬ ((i4 &&& (4 : Int32)).toInt = (0 : Int)))) i2 sa0 sa1 sa2 sa3 pl_72_393 x0_72_393 x1_72_393 x2_72_393 k_pl_72_393 c_pl_72_393 (X509.more (by decide) (by decide)) Z521 F514 G509_0 G509_6 F515 G509_7 F518
      · rcases own_off i3 i1 i2 with oo | oo | oo
        · refine Own.aload X509 at_163 rfl rfl ?_
          refine Own.aload X509 at_165 rfl rfl ?_
          refine Own.iloadN X509 at_167 rfl ?_
          obtain ⟨d168, e_d168⟩ : ∃ v, FP.i2d i3 = v := ⟨_, rfl⟩
          obtain ⟨f_d168, z_d168⟩ := Own.i2d_v e_d168
          have n_d168 := f_d168.noNaN
          refine Own.i2d X509 at_168 e_d168 ?_
          refine Own.callV_ (y := mn_11) (z := mn_11) (a := pop) X509 at_169 (Own.wd hw 55 rfl) (Own.wd hw 56 rfl) (Own.wd hw 58 rfl) (Own.wd hw 57 rfl) rfl (Own.wd hw 3 rfl) (Own.wd hw 59 rfl) (by decide) F514 (rm6_1N l Z a0 hw pop sa3 d168 pl_72_393 oa_72_393 na_72_393 x0_72_393 x1_72_393 x2_72_393 k_pl_72_393 c_pl_72_393 k_oa_72_393 k_na_72_393 d82 d97 d112 (0 : Int64) ((0 : Int64) + (1 : Int64)) (((0 : Int64) + (1 : Int64)) + (1 : Int64)) ((((0 : Int64) + (1 : Int64)) + (1 : Int64)) + (1 : Int64)) k_sa3 (3 : Int32) (2 : Int32) (0 : Int32) (1 : Int32) (2 : Int32) h509 n0 Z521 F514 G509_0 G509_1 G509_2 G509_3 G509_4 G509_5 G509_6 F515 F519 F520 G509_7 G509_8 G509_9 F513 ne404 ne428 ne434 ne410 ne416 ne422 U393_3 U393_4 U393_0 U393_1 U393_2 U393_14 (Ne.symm U393_7) (Ne.symm U393_10) (Ne.symm U393_12) (Ne.symm U393_8) (Ne.symm U393_11) (Ne.symm U393_13) U393_5 U393_6 U393_9 ne379 ne403 ne427 ne433 ne409 ne415 ne421 fr380 fr411 fr417 fr423 fr429 fr435 n_d168 n_d82 n_d97 n_d112 (by rw [z_d168, z_d97]; exact Own.U_lt.mpr (by omega)) d112 (by decide) rfl n_d112 (by rw [z_d168, z_d112]; exact Own.U_lt.mpr (by omega)) (by decide) (by decide) (by decide)) (lenOf pd_10 rfl) rfl (argsL := [.ref sa3, .double d168]) (rest := []) rfl (W := 0) (Nat.le_of_eq rfl) (by decide) (by decide) (by decide) (by decide) fun T522 h522 v522 X522 q522 => ?_
          obtain ⟨rfl, K522, G522_0, G522_1, G522_2⟩ := q522
          have F523 := F513.keep K522 (ninS ne379 (ninS ne415 (ninS ne427 (ninS ne433 nin0))))
          have F524 := F514.keep K522
          have F525 := F515.keep K522 (ninS (Ne.symm ne404) (ninS U393_1 (ninS U393_3 (ninS U393_4 nin0))))
          have F526 := F516.keep K522
          have F527 := F517.keep K522
          have F528 := F518.keep K522
          have F529 := F519.keep K522 (ninS (Ne.symm ne410) (ninS U393_5 (ninS U393_7 (ninS U393_8 nin0))))
          have F530 := G509_7.keep K522 (ninS (Ne.symm ne422) (ninS (Ne.symm U393_9) (ninS U393_12 (ninS U393_13 nin0))))
          have Z531 : n0 ≤ h522.size := Nat.le_trans Z521 K522.1
          show Own.Go p e below s n0 _ _ _ (T522.setTop (mkF m 172 _ [.int (1 : Int32)]))
          clear F513 F514 F515 F516 F517 F518 F519 F520 G509_0 G509_1 G509_2 G509_3 G509_4 G509_5 G509_6 G509_7 G509_8 G509_9 X509
          refine Own.pop X522 at_172 rfl ?_
          refine Own.iloadN X522 at_173 rfl ?_
          refine Own.iload X522 at_174 rfl ?_
          refine Own.icmp_ X522 (pc' := 182) at_176 (by decide) (fun q => absurd (show i2.toInt ≤ i3.toInt from q) (show ¬ (i2.toInt ≤ i3.toInt) from by omega)) (fun _ => ?_)
          refine Own.iconst X522 (v := 3) at_179 rfl ?_
          refine Own.istore X522 at_180 (l' := #[.val (.int i0), .val (.int i1), .val (.int i2), .val (.int i3), .val (.int i4), .val (.int (3 : Int32)), .val (.int (Own.bo (¬ ((i4 &&& (4 : Int32)).toInt = (0 : Int))))), .val (.ref sa0), .val (.ref sa1), .val (.ref sa2), .val (.ref sa3), .val (.ref pop), .val (.int (3 : Int32)), .val (.int i2), .unset, .unset]) rfl ?_
          exact tl_13 l Z a0 hw (3 : Int32) (Own.bo (¬ ((i4 &&& (4 : Int32)).toInt = (0 : Int)))) i2 sa0 sa1 sa2 sa3 pl_72_393 x0_72_393 x1_72_393 x2_72_393 k_pl_72_393 c_pl_72_393 (X522.more (by decide) (by decide)) Z531 F524 G522_0 G522_1 F525 G522_2 F527
        · refine Own.aload X509 at_163 rfl rfl ?_
          refine Own.aload X509 at_165 rfl rfl ?_
          refine Own.iloadN X509 at_167 rfl ?_
          obtain ⟨d168, e_d168⟩ : ∃ v, FP.i2d i3 = v := ⟨_, rfl⟩
          obtain ⟨f_d168, z_d168⟩ := Own.i2d_v e_d168
          have n_d168 := f_d168.noNaN
          refine Own.i2d X509 at_168 e_d168 ?_
          refine Own.callV_ (y := mn_11) (z := mn_11) (a := pop) X509 at_169 (Own.wd hw 55 rfl) (Own.wd hw 56 rfl) (Own.wd hw 58 rfl) (Own.wd hw 57 rfl) rfl (Own.wd hw 3 rfl) (Own.wd hw 59 rfl) (by decide) F514 (rm6_1A l Z a0 hw pop sa3 d168 pl_72_393 oa_72_393 na_72_393 x0_72_393 x1_72_393 x2_72_393 k_pl_72_393 c_pl_72_393 k_oa_72_393 k_na_72_393 d82 d97 d112 (0 : Int64) ((0 : Int64) + (1 : Int64)) (((0 : Int64) + (1 : Int64)) + (1 : Int64)) ((((0 : Int64) + (1 : Int64)) + (1 : Int64)) + (1 : Int64)) k_sa3 (3 : Int32) (2 : Int32) (0 : Int32) (1 : Int32) (2 : Int32) h509 n0 Z521 F514 G509_0 G509_1 G509_2 G509_3 G509_4 G509_5 G509_6 F515 F519 F520 G509_7 G509_8 G509_9 F513 ne404 ne428 ne434 ne410 ne416 ne422 U393_3 U393_4 U393_0 U393_1 U393_2 U393_14 (Ne.symm U393_7) (Ne.symm U393_10) (Ne.symm U393_12) (Ne.symm U393_8) (Ne.symm U393_11) (Ne.symm U393_13) U393_5 U393_6 U393_9 ne379 ne403 ne427 ne433 ne409 ne415 ne421 fr380 fr411 fr417 fr423 fr429 fr435 n_d168 n_d82 n_d97 n_d112 (by rw [z_d168, z_d97]; exact Own.U_lt.mpr (by omega)) d112 (by decide) rfl n_d112 (by rw [z_d112, z_d168]; exact Own.U_le.mpr (by omega)) (by decide) (by decide) (by decide)) (lenOf pd_10 rfl) rfl (argsL := [.ref sa3, .double d168]) (rest := []) rfl (W := 0) (Nat.le_of_eq rfl) (by decide) (by decide) (by decide) (by decide) fun T532 h532 v532 X532 q532 => ?_
          obtain ⟨rfl, K532, G532_0, G532_1, G532_2⟩ := q532
          have F533 := F513.keep K532 (ninS ne379 (ninS ne415 (ninS ne427 (ninS ne433 nin0))))
          have F534 := F514.keep K532
          have F535 := F515.keep K532 (ninS (Ne.symm ne404) (ninS U393_1 (ninS U393_3 (ninS U393_4 nin0))))
          have F536 := F516.keep K532
          have F537 := F517.keep K532
          have F538 := F518.keep K532
          have F539 := F519.keep K532 (ninS (Ne.symm ne410) (ninS U393_5 (ninS U393_7 (ninS U393_8 nin0))))
          have F540 := G509_7.keep K532 (ninS (Ne.symm ne422) (ninS (Ne.symm U393_9) (ninS U393_12 (ninS U393_13 nin0))))
          have Z541 : n0 ≤ h532.size := Nat.le_trans Z521 K532.1
          show Own.Go p e below s n0 _ _ _ (T532.setTop (mkF m 172 _ [.int (0 : Int32)]))
          clear F513 F514 F515 F516 F517 F518 F519 F520 G509_0 G509_1 G509_2 G509_3 G509_4 G509_5 G509_6 G509_7 G509_8 G509_9 X509
          refine Own.pop X532 at_172 rfl ?_
          refine Own.iloadN X532 at_173 rfl ?_
          refine Own.iload X532 at_174 rfl ?_
          refine Own.icmp_ X532 (pc' := 182) at_176 (by decide) (fun _ => ?_) (fun q => absurd (show i2.toInt ≤ i3.toInt from by omega) q)
          exact tl_22 l Z a0 hw (3 : Int32) (Own.bo (¬ ((i4 &&& (4 : Int32)).toInt = (0 : Int)))) i2 sa0 sa1 sa2 sa3 pl_72_393 x0_72_393 x1_72_393 x2_72_393 k_pl_72_393 c_pl_72_393 (X532.more (by decide) (by decide)) Z541 F534 G532_0 G532_1 F535 F540 F538
        · refine Own.aload X509 at_163 rfl rfl ?_
          refine Own.aload X509 at_165 rfl rfl ?_
          refine Own.iloadN X509 at_167 rfl ?_
          obtain ⟨d168, e_d168⟩ : ∃ v, FP.i2d i3 = v := ⟨_, rfl⟩
          obtain ⟨f_d168, z_d168⟩ := Own.i2d_v e_d168
          have n_d168 := f_d168.noNaN
          refine Own.i2d X509 at_168 e_d168 ?_
          refine Own.callV_ (y := mn_11) (z := mn_11) (a := pop) X509 at_169 (Own.wd hw 55 rfl) (Own.wd hw 56 rfl) (Own.wd hw 58 rfl) (Own.wd hw 57 rfl) rfl (Own.wd hw 3 rfl) (Own.wd hw 59 rfl) (by decide) F514 (rm6_1R l Z a0 hw pop sa3 d168 oa_72_393 k_oa_72_393 d82 d97 d112 h509 n0 Z521 G509_1 G509_5 G509_8 n_d168 n_d97 (by rw [z_d97, z_d168]; exact Own.U_le.mpr (by omega))) (lenOf pd_10 rfl) rfl (argsL := [.ref sa3, .double d168]) (rest := []) rfl (W := 0) (Nat.le_of_eq rfl) (by decide) (by decide) (by decide) (by decide) fun T542 h542 v542 X542 q542 => ?_
          obtain ⟨rfl, rfl⟩ := q542
          show Own.Go p e below s n0 _ _ _ (T542.setTop (mkF m 172 _ [.int (0 : Int32)]))
          clear X509
          refine Own.pop X542 at_172 rfl ?_
          refine Own.iloadN X542 at_173 rfl ?_
          refine Own.iload X542 at_174 rfl ?_
          refine Own.icmp_ X542 (pc' := 182) at_176 (by decide) (fun _ => ?_) (fun q => absurd (show i2.toInt ≤ i3.toInt from by omega) q)
          exact tl_22 l Z a0 hw (3 : Int32) (Own.bo (¬ ((i4 &&& (4 : Int32)).toInt = (0 : Int)))) i2 sa0 sa1 sa2 sa3 pl_72_393 x0_72_393 x1_72_393 x2_72_393 k_pl_72_393 c_pl_72_393 (X542.more (by decide) (by decide)) Z521 F514 G509_0 G509_6 F515 G509_7 F518
    · refine Own.iload X436 at_86 rfl ?_
      refine Own.iconst X436 (v := 1) at_88 rfl ?_
      refine Own.icmp_ X436 (pc' := 101) at_89 (by decide) (fun q => absurd (show (3 : Int) ≤ (1 : Int) from q) (show ¬ ((3 : Int) ≤ (1 : Int)) from by decide)) (fun _ => ?_)
      refine Own.aload X436 at_92 rfl rfl ?_
      refine Own.aload X436 at_94 rfl rfl ?_
      refine Own.iloadN X436 at_96 rfl ?_
      obtain ⟨d97, e_d97⟩ : ∃ v, FP.i2d i1 = v := ⟨_, rfl⟩
      obtain ⟨f_d97, z_d97⟩ := Own.i2d_v e_d97
      have n_d97 := f_d97.noNaN
      refine Own.i2d X436 at_97 e_d97 ?_
      refine Own.callV_ (y := mn_3) (z := mn_3) (a := pop) X436 at_98 (Own.wd hw 20 rfl) (Own.wd hw 21 rfl) (Own.wd hw 23 rfl) (Own.wd hw 22 rfl) rfl (Own.wd hw 3 rfl) (Own.wd hw 24 rfl) (by decide) F441 (rm3_10010 l Z a0 hw pop sa1 d97 pl_72_393 oa_72_393 na_72_393 x0_72_393 x1_72_393 x2_72_393 k_pl_72_393 c_pl_72_393 k_oa_72_393 k_na_72_393 d82 0 0 (0 : Int64) (0 : Int64) (0 : Int64) ((0 : Int64) + (1 : Int64)) k_sa1 (1 : Int32) (0 : Int32) h436 n0 Z448 F441 G436_0 G436_1 G436_2 G436_3 G436_4 G436_5 G436_6 F442 F443 G436_8 G436_9 F438 ne404 ne428 ne434 ne410 ne416 ne422 U393_3 U393_4 U393_0 U393_1 U393_2 U393_14 (Ne.symm U393_7) (Ne.symm U393_10) (Ne.symm U393_12) (Ne.symm U393_8) (Ne.symm U393_11) (Ne.symm U393_13) U393_5 U393_6 U393_9 ne377 ne401 ne425 ne431 ne407 ne413 ne419 fr380 fr411 fr417 fr423 fr429 fr435 n_d97 n_d82 (by rw [z_d82, z_d97]; exact Own.U_lt.mpr (by omega)) (by rw [z_d82, z_d97]; exact Own.U_le.mpr (by omega))) (lenOf pd_13 rfl) rfl (argsL := [.ref sa1, .double d97]) (rest := []) rfl (W := 0) (Nat.le_of_eq rfl) (by decide) (by decide) (by decide) (by decide) fun T543 h543 v543 X543 q543 => ?_
      obtain ⟨rfl, K543, G543_0, G543_1, G543_2, G543_3, G543_4, G543_5, G543_6, G543_7, G543_8, G543_9⟩ := q543
      have F544 := F437.keep K543 (ninS ne376 (ninS ne412 (ninS ne424 (ninS ne430 nin0))))
      have F545 := F438.keep K543 (ninS ne377 (ninS ne413 (ninS ne425 (ninS ne431 nin0))))
      have F546 := F439.keep K543 (ninS ne378 (ninS ne414 (ninS ne426 (ninS ne432 nin0))))
      have F547 := F440.keep K543 (ninS ne379 (ninS ne415 (ninS ne427 (ninS ne433 nin0))))
      have F548 := F441.keep K543
      have F549 := F442.keep K543 (ninS (Ne.symm ne404) (ninS U393_1 (ninS U393_3 (ninS U393_4 nin0))))
      have F550 := F444.keep K543 (ninS (Ne.symm ne422) (ninS (Ne.symm U393_9) (ninS U393_12 (ninS U393_13 nin0))))
      have F551 := F445.keep K543
      have F552 := F446.keep K543
      have F553 := F447.keep K543
      have F554 := G436_7.keep K543 (ninS (Ne.symm ne410) (ninS U393_5 (ninS U393_7 (ninS U393_8 nin0))))
      have Z555 : n0 ≤ h543.size := Nat.le_trans Z448 K543.1
      show Own.Go p e below s n0 _ _ _ (T543.setTop (mkF m 101 _ []))
      clear F437 F438 F439 F440 F441 F442 F443 F444 F445 F446 F447 G436_0 G436_1 G436_2 G436_3 G436_4 G436_5 G436_6 G436_7 G436_8 G436_9 X436
      refine Own.iload X543 at_101 rfl ?_
      refine Own.iconst X543 (v := 2) at_103 rfl ?_
      refine Own.icmp_ X543 (pc' := 116) at_104 (by decide) (fun q => absurd (show (3 : Int) ≤ (2 : Int) from q) (show ¬ ((3 : Int) ≤ (2 : Int)) from by decide)) (fun _ => ?_)
      refine Own.aload X543 at_107 rfl rfl ?_
      refine Own.aload X543 at_109 rfl rfl ?_
      refine Own.iloadN X543 at_111 rfl ?_
      obtain ⟨d112, e_d112⟩ : ∃ v, FP.i2d i2 = v := ⟨_, rfl⟩
      obtain ⟨f_d112, z_d112⟩ := Own.i2d_v e_d112
      have n_d112 := f_d112.noNaN
      refine Own.i2d X543 at_112 e_d112 ?_
      refine Own.callV_ (y := mn_3) (z := mn_3) (a := pop) X543 at_113 (Own.wd hw 20 rfl) (Own.wd hw 21 rfl) (Own.wd hw 23 rfl) (Own.wd hw 22 rfl) rfl (Own.wd hw 3 rfl) (Own.wd hw 24 rfl) (by decide) F548 (rm3_21010 l Z a0 hw pop sa2 d112 pl_72_393 oa_72_393 na_72_393 x0_72_393 x1_72_393 x2_72_393 k_pl_72_393 c_pl_72_393 k_oa_72_393 k_na_72_393 d82 d97 0 (0 : Int64) ((0 : Int64) + (1 : Int64)) (0 : Int64) (((0 : Int64) + (1 : Int64)) + (1 : Int64)) k_sa2 (2 : Int32) (0 : Int32) h543 n0 Z555 F548 G543_0 G543_1 G543_2 G543_3 G543_4 G543_5 G543_6 F549 F550 G543_8 G543_9 F546 ne404 ne428 ne434 ne410 ne416 ne422 U393_3 U393_4 U393_0 U393_1 U393_2 U393_14 (Ne.symm U393_7) (Ne.symm U393_10) (Ne.symm U393_12) (Ne.symm U393_8) (Ne.symm U393_11) (Ne.symm U393_13) U393_5 U393_6 U393_9 ne378 ne402 ne426 ne432 ne408 ne414 ne420 fr380 fr411 fr417 fr423 fr429 fr435 n_d112 n_d82 n_d97 (by rw [z_d112, z_d97]; exact Own.U_le.mpr (by omega)) (by rw [z_d82, z_d112]; exact Own.U_le.mpr (by omega))) (lenOf pd_13 rfl) rfl (argsL := [.ref sa2, .double d112]) (rest := []) rfl (W := 0) (Nat.le_of_eq rfl) (by decide) (by decide) (by decide) (by decide) fun T556 h556 v556 X556 q556 => ?_
      obtain ⟨rfl, K556, G556_0, G556_1, G556_2, G556_3, G556_4, G556_5, G556_6, G556_7, G556_8, G556_9⟩ := q556
      have F557 := F544.keep K556 (ninS ne376 (ninS ne418 (ninS ne424 (ninS ne430 nin0))))
      have F558 := F545.keep K556 (ninS ne377 (ninS ne419 (ninS ne425 (ninS ne431 nin0))))
      have F559 := F546.keep K556 (ninS ne378 (ninS ne420 (ninS ne426 (ninS ne432 nin0))))
      have F560 := F547.keep K556 (ninS ne379 (ninS ne421 (ninS ne427 (ninS ne433 nin0))))
      have F561 := F548.keep K556
      have F562 := F549.keep K556 (ninS (Ne.symm ne404) (ninS U393_2 (ninS U393_3 (ninS U393_4 nin0))))
      have F563 := F551.keep K556
      have F564 := F552.keep K556
      have F565 := F553.keep K556
      have F566 := F554.keep K556 (ninS (Ne.symm ne410) (ninS U393_6 (ninS U393_7 (ninS U393_8 nin0))))
      have F567 := G543_7.keep K556 (ninS (Ne.symm ne416) (ninS U393_9 (ninS U393_10 (ninS U393_11 nin0))))
      have Z568 : n0 ≤ h556.size := Nat.le_trans Z555 K556.1
      show Own.Go p e below s n0 _ _ _ (T556.setTop (mkF m 116 _ []))
      clear F544 F545 F546 F547 F548 F549 F550 F551 F552 F553 F554 G543_0 G543_1 G543_2 G543_3 G543_4 G543_5 G543_6 G543_7 G543_8 G543_9 X543
      refine Own.iconst X556 (v := 0) at_116 rfl ?_
      refine Own.istore X556 at_117 (l' := #[.val (.int i0), .val (.int i1), .val (.int i2), .val (.int i3), .val (.int i4), .val (.int (3 : Int32)), .val (.int (Own.bo (¬ ((i4 &&& (4 : Int32)).toInt = (0 : Int))))), .val (.ref sa0), .val (.ref sa1), .val (.ref sa2), .val (.ref sa3), .val (.ref pop), .val (.int (0 : Int32)), .unset, .unset, .unset]) rfl ?_
      refine Own.iloadN X556 at_119 rfl ?_
      refine Own.istore X556 at_120 (l' := #[.val (.int i0), .val (.int i1), .val (.int i2), .val (.int i3), .val (.int i4), .val (.int (3 : Int32)), .val (.int (Own.bo (¬ ((i4 &&& (4 : Int32)).toInt = (0 : Int))))), .val (.ref sa0), .val (.ref sa1), .val (.ref sa2), .val (.ref sa3), .val (.ref pop), .val (.int (0 : Int32)), .val (.int i0), .unset, .unset]) rfl ?_
      refine Own.iload X556 at_122 rfl ?_
      refine Own.iconst X556 (v := 1) at_124 rfl ?_
      refine Own.icmp_ X556 (pc' := 140) at_125 (by decide) (fun q => absurd (show (3 : Int) ≤ (1 : Int) from q) (show ¬ ((3 : Int) ≤ (1 : Int)) from by decide)) (fun _ => ?_)
      refine Own.iloadN X556 at_128 rfl ?_
      refine Own.iload X556 at_129 rfl ?_
      refine Own.icmp_ X556 (pc' := 140) at_131 (by decide) (fun _ => ?_) (fun q => absurd (show i0.toInt ≤ i1.toInt from by omega) q)
      refine Own.iload X556 at_140 rfl ?_
      refine Own.iconst X556 (v := 2) at_142 rfl ?_
      refine Own.icmp_ X556 (pc' := 158) at_143 (by decide) (fun q => absurd (show (3 : Int) ≤ (2 : Int) from q) (show ¬ ((3 : Int) ≤ (2 : Int)) from by decide)) (fun _ => ?_)
      refine Own.iloadN X556 at_146 rfl ?_
      refine Own.iload X556 at_147 rfl ?_
      refine Own.icmp_ X556 (pc' := 158) at_149 (by decide) (fun _ => ?_) (fun q => absurd (show i0.toInt ≤ i2.toInt from by omega) q)
      refine Own.iload X556 at_158 rfl ?_
      refine Own.ifeqB X556 (pc' := 182) at_160 (by decide) (fun (h160 : ¬ (¬ ((i4 &&& (4 : Int32)).toInt = (0 : Int)))) => ?_) (fun (h160 : ¬ ((i4 &&& (4 : Int32)).toInt = (0 : Int))) => ?_)
      · exact tl_00 l Z a0 hw (3 : Int32) (Own.bo (¬ ((i4 &&& (4 : Int32)).toInt = (0 : Int)))) i0 sa0 sa1 sa2 sa3 pl_72_393 x0_72_393 x1_72_393 x2_72_393 k_pl_72_393 c_pl_72_393 (X556.more (by decide) (by decide)) Z568 F561 G556_0 G556_6 F562 F566 F563
      · rcases own_off i3 i1 i0 with oo | oo | oo
        · refine Own.aload X556 at_163 rfl rfl ?_
          refine Own.aload X556 at_165 rfl rfl ?_
          refine Own.iloadN X556 at_167 rfl ?_
          obtain ⟨d168, e_d168⟩ : ∃ v, FP.i2d i3 = v := ⟨_, rfl⟩
          obtain ⟨f_d168, z_d168⟩ := Own.i2d_v e_d168
          have n_d168 := f_d168.noNaN
          refine Own.i2d X556 at_168 e_d168 ?_
          refine Own.callV_ (y := mn_11) (z := mn_11) (a := pop) X556 at_169 (Own.wd hw 55 rfl) (Own.wd hw 56 rfl) (Own.wd hw 58 rfl) (Own.wd hw 57 rfl) rfl (Own.wd hw 3 rfl) (Own.wd hw 59 rfl) (by decide) F561 (rm6_1N l Z a0 hw pop sa3 d168 pl_72_393 oa_72_393 na_72_393 x0_72_393 x1_72_393 x2_72_393 k_pl_72_393 c_pl_72_393 k_oa_72_393 k_na_72_393 d82 d97 d112 (0 : Int64) ((0 : Int64) + (1 : Int64)) (((0 : Int64) + (1 : Int64)) + (1 : Int64)) ((((0 : Int64) + (1 : Int64)) + (1 : Int64)) + (1 : Int64)) k_sa3 (3 : Int32) (0 : Int32) (0 : Int32) (1 : Int32) (2 : Int32) h556 n0 Z568 F561 G556_0 G556_1 G556_2 G556_3 G556_4 G556_5 G556_6 F562 F566 F567 G556_7 G556_8 G556_9 F560 ne404 ne428 ne434 ne410 ne416 ne422 U393_3 U393_4 U393_0 U393_1 U393_2 U393_14 (Ne.symm U393_7) (Ne.symm U393_10) (Ne.symm U393_12) (Ne.symm U393_8) (Ne.symm U393_11) (Ne.symm U393_13) U393_5 U393_6 U393_9 ne379 ne403 ne427 ne433 ne409 ne415 ne421 fr380 fr411 fr417 fr423 fr429 fr435 n_d168 n_d82 n_d97 n_d112 (by rw [z_d168, z_d97]; exact Own.U_lt.mpr (by omega)) d82 (by decide) rfl n_d82 (by rw [z_d168, z_d82]; exact Own.U_lt.mpr (by omega)) (by decide) (by decide) (by decide)) (lenOf pd_10 rfl) rfl (argsL := [.ref sa3, .double d168]) (rest := []) rfl (W := 0) (Nat.le_of_eq rfl) (by decide) (by decide) (by decide) (by decide) fun T569 h569 v569 X569 q569 => ?_
          obtain ⟨rfl, K569, G569_0, G569_1, G569_2⟩ := q569
          have F570 := F560.keep K569 (ninS ne379 (ninS ne415 (ninS ne427 (ninS ne433 nin0))))
          have F571 := F561.keep K569
          have F572 := F562.keep K569 (ninS (Ne.symm ne404) (ninS U393_1 (ninS U393_3 (ninS U393_4 nin0))))
          have F573 := F563.keep K569
          have F574 := F564.keep K569
          have F575 := F565.keep K569
          have F576 := F566.keep K569 (ninS (Ne.symm ne410) (ninS U393_5 (ninS U393_7 (ninS U393_8 nin0))))
          have F577 := G556_7.keep K569 (ninS (Ne.symm ne422) (ninS (Ne.symm U393_9) (ninS U393_12 (ninS U393_13 nin0))))
          have Z578 : n0 ≤ h569.size := Nat.le_trans Z568 K569.1
          show Own.Go p e below s n0 _ _ _ (T569.setTop (mkF m 172 _ [.int (1 : Int32)]))
          clear F560 F561 F562 F563 F564 F565 F566 F567 G556_0 G556_1 G556_2 G556_3 G556_4 G556_5 G556_6 G556_7 G556_8 G556_9 X556
          refine Own.pop X569 at_172 rfl ?_
          refine Own.iloadN X569 at_173 rfl ?_
          refine Own.iload X569 at_174 rfl ?_
          refine Own.icmp_ X569 (pc' := 182) at_176 (by decide) (fun q => absurd (show i0.toInt ≤ i3.toInt from q) (show ¬ (i0.toInt ≤ i3.toInt) from by omega)) (fun _ => ?_)
          refine Own.iconst X569 (v := 3) at_179 rfl ?_
          refine Own.istore X569 at_180 (l' := #[.val (.int i0), .val (.int i1), .val (.int i2), .val (.int i3), .val (.int i4), .val (.int (3 : Int32)), .val (.int (Own.bo (¬ ((i4 &&& (4 : Int32)).toInt = (0 : Int))))), .val (.ref sa0), .val (.ref sa1), .val (.ref sa2), .val (.ref sa3), .val (.ref pop), .val (.int (3 : Int32)), .val (.int i0), .unset, .unset]) rfl ?_
          exact tl_13 l Z a0 hw (3 : Int32) (Own.bo (¬ ((i4 &&& (4 : Int32)).toInt = (0 : Int)))) i0 sa0 sa1 sa2 sa3 pl_72_393 x0_72_393 x1_72_393 x2_72_393 k_pl_72_393 c_pl_72_393 (X569.more (by decide) (by decide)) Z578 F571 G569_0 G569_1 F572 G569_2 F574
        · refine Own.aload X556 at_163 rfl rfl ?_
          refine Own.aload X556 at_165 rfl rfl ?_
          refine Own.iloadN X556 at_167 rfl ?_
          obtain ⟨d168, e_d168⟩ : ∃ v, FP.i2d i3 = v := ⟨_, rfl⟩
          obtain ⟨f_d168, z_d168⟩ := Own.i2d_v e_d168
          have n_d168 := f_d168.noNaN
          refine Own.i2d X556 at_168 e_d168 ?_
          refine Own.callV_ (y := mn_11) (z := mn_11) (a := pop) X556 at_169 (Own.wd hw 55 rfl) (Own.wd hw 56 rfl) (Own.wd hw 58 rfl) (Own.wd hw 57 rfl) rfl (Own.wd hw 3 rfl) (Own.wd hw 59 rfl) (by decide) F561 (rm6_1A l Z a0 hw pop sa3 d168 pl_72_393 oa_72_393 na_72_393 x0_72_393 x1_72_393 x2_72_393 k_pl_72_393 c_pl_72_393 k_oa_72_393 k_na_72_393 d82 d97 d112 (0 : Int64) ((0 : Int64) + (1 : Int64)) (((0 : Int64) + (1 : Int64)) + (1 : Int64)) ((((0 : Int64) + (1 : Int64)) + (1 : Int64)) + (1 : Int64)) k_sa3 (3 : Int32) (0 : Int32) (0 : Int32) (1 : Int32) (2 : Int32) h556 n0 Z568 F561 G556_0 G556_1 G556_2 G556_3 G556_4 G556_5 G556_6 F562 F566 F567 G556_7 G556_8 G556_9 F560 ne404 ne428 ne434 ne410 ne416 ne422 U393_3 U393_4 U393_0 U393_1 U393_2 U393_14 (Ne.symm U393_7) (Ne.symm U393_10) (Ne.symm U393_12) (Ne.symm U393_8) (Ne.symm U393_11) (Ne.symm U393_13) U393_5 U393_6 U393_9 ne379 ne403 ne427 ne433 ne409 ne415 ne421 fr380 fr411 fr417 fr423 fr429 fr435 n_d168 n_d82 n_d97 n_d112 (by rw [z_d168, z_d97]; exact Own.U_lt.mpr (by omega)) d82 (by decide) rfl n_d82 (by rw [z_d82, z_d168]; exact Own.U_le.mpr (by omega)) (by decide) (by decide) (by decide)) (lenOf pd_10 rfl) rfl (argsL := [.ref sa3, .double d168]) (rest := []) rfl (W := 0) (Nat.le_of_eq rfl) (by decide) (by decide) (by decide) (by decide) fun T579 h579 v579 X579 q579 => ?_
          obtain ⟨rfl, K579, G579_0, G579_1, G579_2⟩ := q579
          have F580 := F560.keep K579 (ninS ne379 (ninS ne415 (ninS ne427 (ninS ne433 nin0))))
          have F581 := F561.keep K579
          have F582 := F562.keep K579 (ninS (Ne.symm ne404) (ninS U393_1 (ninS U393_3 (ninS U393_4 nin0))))
          have F583 := F563.keep K579
          have F584 := F564.keep K579
          have F585 := F565.keep K579
          have F586 := F566.keep K579 (ninS (Ne.symm ne410) (ninS U393_5 (ninS U393_7 (ninS U393_8 nin0))))
          have F587 := G556_7.keep K579 (ninS (Ne.symm ne422) (ninS (Ne.symm U393_9) (ninS U393_12 (ninS U393_13 nin0))))
          have Z588 : n0 ≤ h579.size := Nat.le_trans Z568 K579.1
          show Own.Go p e below s n0 _ _ _ (T579.setTop (mkF m 172 _ [.int (0 : Int32)]))
          clear F560 F561 F562 F563 F564 F565 F566 F567 G556_0 G556_1 G556_2 G556_3 G556_4 G556_5 G556_6 G556_7 G556_8 G556_9 X556
          refine Own.pop X579 at_172 rfl ?_
          refine Own.iloadN X579 at_173 rfl ?_
          refine Own.iload X579 at_174 rfl ?_
          refine Own.icmp_ X579 (pc' := 182) at_176 (by decide) (fun _ => ?_) (fun q => absurd (show i0.toInt ≤ i3.toInt from by omega) q)
          exact tl_00 l Z a0 hw (3 : Int32) (Own.bo (¬ ((i4 &&& (4 : Int32)).toInt = (0 : Int)))) i0 sa0 sa1 sa2 sa3 pl_72_393 x0_72_393 x1_72_393 x2_72_393 k_pl_72_393 c_pl_72_393 (X579.more (by decide) (by decide)) Z588 F581 G579_0 G579_1 F582 F586 F583
        · refine Own.aload X556 at_163 rfl rfl ?_
          refine Own.aload X556 at_165 rfl rfl ?_
          refine Own.iloadN X556 at_167 rfl ?_
          obtain ⟨d168, e_d168⟩ : ∃ v, FP.i2d i3 = v := ⟨_, rfl⟩
          obtain ⟨f_d168, z_d168⟩ := Own.i2d_v e_d168
          have n_d168 := f_d168.noNaN
          refine Own.i2d X556 at_168 e_d168 ?_
          refine Own.callV_ (y := mn_11) (z := mn_11) (a := pop) X556 at_169 (Own.wd hw 55 rfl) (Own.wd hw 56 rfl) (Own.wd hw 58 rfl) (Own.wd hw 57 rfl) rfl (Own.wd hw 3 rfl) (Own.wd hw 59 rfl) (by decide) F561 (rm6_1R l Z a0 hw pop sa3 d168 oa_72_393 k_oa_72_393 d82 d97 d112 h556 n0 Z568 G556_1 G556_5 G556_8 n_d168 n_d97 (by rw [z_d97, z_d168]; exact Own.U_le.mpr (by omega))) (lenOf pd_10 rfl) rfl (argsL := [.ref sa3, .double d168]) (rest := []) rfl (W := 0) (Nat.le_of_eq rfl) (by decide) (by decide) (by decide) (by decide) fun T589 h589 v589 X589 q589 => ?_
          obtain ⟨rfl, rfl⟩ := q589
          show Own.Go p e below s n0 _ _ _ (T589.setTop (mkF m 172 _ [.int (0 : Int32)]))
          clear X556
          refine Own.pop X589 at_172 rfl ?_
          refine Own.iloadN X589 at_173 rfl ?_
          refine Own.iload X589 at_174 rfl ?_
          refine Own.icmp_ X589 (pc' := 182) at_176 (by decide) (fun _ => ?_) (fun q => absurd (show i0.toInt ≤ i3.toInt from by omega) q)
          exact tl_00 l Z a0 hw (3 : Int32) (Own.bo (¬ ((i4 &&& (4 : Int32)).toInt = (0 : Int)))) i0 sa0 sa1 sa2 sa3 pl_72_393 x0_72_393 x1_72_393 x2_72_393 k_pl_72_393 c_pl_72_393 (X589.more (by decide) (by decide)) Z568 F561 G556_0 G556_6 F562 F566 F563
    · refine Own.iload X436 at_86 rfl ?_
      refine Own.iconst X436 (v := 1) at_88 rfl ?_
      refine Own.icmp_ X436 (pc' := 101) at_89 (by decide) (fun q => absurd (show (3 : Int) ≤ (1 : Int) from q) (show ¬ ((3 : Int) ≤ (1 : Int)) from by decide)) (fun _ => ?_)
      refine Own.aload X436 at_92 rfl rfl ?_
      refine Own.aload X436 at_94 rfl rfl ?_
      refine Own.iloadN X436 at_96 rfl ?_
      obtain ⟨d97, e_d97⟩ : ∃ v, FP.i2d i1 = v := ⟨_, rfl⟩
      obtain ⟨f_d97, z_d97⟩ := Own.i2d_v e_d97
      have n_d97 := f_d97.noNaN
      refine Own.i2d X436 at_97 e_d97 ?_
      refine Own.callV_ (y := mn_3) (z := mn_3) (a := pop) X436 at_98 (Own.wd hw 20 rfl) (Own.wd hw 21 rfl) (Own.wd hw 23 rfl) (Own.wd hw 22 rfl) rfl (Own.wd hw 3 rfl) (Own.wd hw 24 rfl) (by decide) F441 (rm3_10001 l Z a0 hw pop sa1 d97 pl_72_393 oa_72_393 na_72_393 x0_72_393 x1_72_393 x2_72_393 k_pl_72_393 c_pl_72_393 k_oa_72_393 k_na_72_393 d82 0 0 (0 : Int64) (0 : Int64) (0 : Int64) ((0 : Int64) + (1 : Int64)) k_sa1 (1 : Int32) (0 : Int32) h436 n0 Z448 F441 G436_0 G436_1 G436_2 G436_3 G436_4 G436_5 G436_6 F442 F443 G436_8 G436_9 F438 ne404 ne428 ne434 ne410 ne416 ne422 U393_3 U393_4 U393_0 U393_1 U393_2 U393_14 (Ne.symm U393_7) (Ne.symm U393_10) (Ne.symm U393_12) (Ne.symm U393_8) (Ne.symm U393_11) (Ne.symm U393_13) U393_5 U393_6 U393_9 ne377 ne401 ne425 ne431 ne407 ne413 ne419 fr380 fr411 fr417 fr423 fr429 fr435 n_d97 n_d82 (by rw [z_d97, z_d82]; exact Own.U_le.mpr (by omega)) (by rw [z_d97, z_d82]; exact Own.U_lt.mpr (by omega))) (lenOf pd_13 rfl) rfl (argsL := [.ref sa1, .double d97]) (rest := []) rfl (W := 0) (Nat.le_of_eq rfl) (by decide) (by decide) (by decide) (by decide) fun T590 h590 v590 X590 q590 => ?_
      obtain ⟨rfl, K590, G590_0, G590_1, G590_2, G590_3, G590_4, G590_5, G590_6, G590_7, G590_8, G590_9⟩ := q590
      have F591 := F437.keep K590 (ninS ne376 (ninS ne412 (ninS ne424 (ninS ne430 nin0))))
      have F592 := F438.keep K590 (ninS ne377 (ninS ne413 (ninS ne425 (ninS ne431 nin0))))
      have F593 := F439.keep K590 (ninS ne378 (ninS ne414 (ninS ne426 (ninS ne432 nin0))))
      have F594 := F440.keep K590 (ninS ne379 (ninS ne415 (ninS ne427 (ninS ne433 nin0))))
      have F595 := F441.keep K590
      have F596 := F442.keep K590 (ninS (Ne.symm ne404) (ninS U393_1 (ninS U393_3 (ninS U393_4 nin0))))
      have F597 := F444.keep K590 (ninS (Ne.symm ne422) (ninS (Ne.symm U393_9) (ninS U393_12 (ninS U393_13 nin0))))
      have F598 := F445.keep K590
      have F599 := F446.keep K590
      have F600 := F447.keep K590
      have F601 := G436_7.keep K590 (ninS (Ne.symm ne410) (ninS U393_5 (ninS U393_7 (ninS U393_8 nin0))))
      have Z602 : n0 ≤ h590.size := Nat.le_trans Z448 K590.1
      show Own.Go p e below s n0 _ _ _ (T590.setTop (mkF m 101 _ []))
      clear F437 F438 F439 F440 F441 F442 F443 F444 F445 F446 F447 G436_0 G436_1 G436_2 G436_3 G436_4 G436_5 G436_6 G436_7 G436_8 G436_9 X436
      refine Own.iload X590 at_101 rfl ?_
      refine Own.iconst X590 (v := 2) at_103 rfl ?_
      refine Own.icmp_ X590 (pc' := 116) at_104 (by decide) (fun q => absurd (show (3 : Int) ≤ (2 : Int) from q) (show ¬ ((3 : Int) ≤ (2 : Int)) from by decide)) (fun _ => ?_)
      refine Own.aload X590 at_107 rfl rfl ?_
      refine Own.aload X590 at_109 rfl rfl ?_
      refine Own.iloadN X590 at_111 rfl ?_
      obtain ⟨d112, e_d112⟩ : ∃ v, FP.i2d i2 = v := ⟨_, rfl⟩
      obtain ⟨f_d112, z_d112⟩ := Own.i2d_v e_d112
      have n_d112 := f_d112.noNaN
      refine Own.i2d X590 at_112 e_d112 ?_
      refine Own.callV_ (y := mn_3) (z := mn_3) (a := pop) X590 at_113 (Own.wd hw 20 rfl) (Own.wd hw 21 rfl) (Own.wd hw 23 rfl) (Own.wd hw 22 rfl) rfl (Own.wd hw 3 rfl) (Own.wd hw 24 rfl) (by decide) F595 (rm3_20121 l Z a0 hw pop sa2 d112 pl_72_393 oa_72_393 na_72_393 x0_72_393 x1_72_393 x2_72_393 k_pl_72_393 c_pl_72_393 k_oa_72_393 k_na_72_393 d82 d97 0 (0 : Int64) ((0 : Int64) + (1 : Int64)) (0 : Int64) (((0 : Int64) + (1 : Int64)) + (1 : Int64)) k_sa2 (2 : Int32) (0 : Int32) h590 n0 Z602 F595 G590_0 G590_1 G590_2 G590_3 G590_4 G590_5 G590_6 F596 F597 G590_8 G590_9 F593 ne404 ne428 ne434 ne410 ne416 ne422 U393_3 U393_4 U393_0 U393_1 U393_2 U393_14 (Ne.symm U393_7) (Ne.symm U393_10) (Ne.symm U393_12) (Ne.symm U393_8) (Ne.symm U393_11) (Ne.symm U393_13) U393_5 U393_6 U393_9 ne378 ne402 ne426 ne432 ne408 ne414 ne420 fr380 fr411 fr417 fr423 fr429 fr435 n_d112 n_d82 n_d97 (by rw [z_d82, z_d112]; exact Own.U_lt.mpr (by omega)) (by rw [z_d97, z_d112]; exact Own.U_le.mpr (by omega))) (lenOf pd_13 rfl) rfl (argsL := [.ref sa2, .double d112]) (rest := []) rfl (W := 0) (Nat.le_of_eq rfl) (by decide) (by decide) (by decide) (by decide) fun T603 h603 v603 X603 q603 => ?_
      obtain ⟨rfl, K603, G603_0, G603_1, G603_2, G603_3, G603_4, G603_5, G603_6, G603_7, G603_8, G603_9⟩ := q603
      have F604 := F591.keep K603 (ninS ne376 (ninS ne418 (ninS ne424 (ninS ne430 nin0))))
      have F605 := F592.keep K603 (ninS ne377 (ninS ne419 (ninS ne425 (ninS ne431 nin0))))
      have F606 := F593.keep K603 (ninS ne378 (ninS ne420 (ninS ne426 (ninS ne432 nin0))))
      have F607 := F594.keep K603 (ninS ne379 (ninS ne421 (ninS ne427 (ninS ne433 nin0))))
      have F608 := F595.keep K603
      have F609 := F596.keep K603 (ninS (Ne.symm ne404) (ninS U393_2 (ninS U393_3 (ninS U393_4 nin0))))
      have F610 := F598.keep K603
      have F611 := F599.keep K603
      have F612 := F600.keep K603
      have F613 := F601.keep K603 (ninS (Ne.symm ne410) (ninS U393_6 (ninS U393_7 (ninS U393_8 nin0))))
      have F614 := G590_7.keep K603 (ninS (Ne.symm ne416) (ninS U393_9 (ninS U393_10 (ninS U393_11 nin0))))
      have Z615 : n0 ≤ h603.size := Nat.le_trans Z602 K603.1
      show Own.Go p e below s n0 _ _ _ (T603.setTop (mkF m 116 _ []))
      clear F591 F592 F593 F594 F595 F596 F597 F598 F599 F600 F601 G590_0 G590_1 G590_2 G590_3 G590_4 G590_5 G590_6 G590_7 G590_8 G590_9 X590
      refine Own.iconst X603 (v := 0) at_116 rfl ?_
      refine Own.istore X603 at_117 (l' := #[.val (.int i0), .val (.int i1), .val (.int i2), .val (.int i3), .val (.int i4), .val (.int (3 : Int32)), .val (.int (Own.bo (¬ ((i4 &&& (4 : Int32)).toInt = (0 : Int))))), .val (.ref sa0), .val (.ref sa1), .val (.ref sa2), .val (.ref sa3), .val (.ref pop), .val (.int (0 : Int32)), .unset, .unset, .unset]) rfl ?_
      refine Own.iloadN X603 at_119 rfl ?_
      refine Own.istore X603 at_120 (l' := #[.val (.int i0), .val (.int i1), .val (.int i2), .val (.int i3), .val (.int i4), .val (.int (3 : Int32)), .val (.int (Own.bo (¬ ((i4 &&& (4 : Int32)).toInt = (0 : Int))))), .val (.ref sa0), .val (.ref sa1), .val (.ref sa2), .val (.ref sa3), .val (.ref pop), .val (.int (0 : Int32)), .val (.int i0), .unset, .unset]) rfl ?_
      refine Own.iload X603 at_122 rfl ?_
      refine Own.iconst X603 (v := 1) at_124 rfl ?_
      refine Own.icmp_ X603 (pc' := 140) at_125 (by decide) (fun q => absurd (show (3 : Int) ≤ (1 : Int) from q) (show ¬ ((3 : Int) ≤ (1 : Int)) from by decide)) (fun _ => ?_)
      refine Own.iloadN X603 at_128 rfl ?_
      refine Own.iload X603 at_129 rfl ?_
      refine Own.icmp_ X603 (pc' := 140) at_131 (by decide) (fun q => absurd (show i0.toInt ≤ i1.toInt from q) (show ¬ (i0.toInt ≤ i1.toInt) from by omega)) (fun _ => ?_)
      refine Own.iconst X603 (v := 1) at_134 rfl ?_
      refine Own.istore X603 at_135 (l' := #[.val (.int i0), .val (.int i1), .val (.int i2), .val (.int i3), .val (.int i4), .val (.int (3 : Int32)), .val (.int (Own.bo (¬ ((i4 &&& (4 : Int32)).toInt = (0 : Int))))), .val (.ref sa0), .val (.ref sa1), .val (.ref sa2), .val (.ref sa3), .val (.ref pop), .val (.int (1 : Int32)), .val (.int i0), .unset, .unset]) rfl ?_
      refine Own.iloadN X603 at_137 rfl ?_
      refine Own.istore X603 at_138 (l' := #[.val (.int i0), .val (.int i1), .val (.int i2), .val (.int i3), .val (.int i4), .val (.int (3 : Int32)), .val (.int (Own.bo (¬ ((i4 &&& (4 : Int32)).toInt = (0 : Int))))), .val (.ref sa0), .val (.ref sa1), .val (.ref sa2), .val (.ref sa3), .val (.ref pop), .val (.int (1 : Int32)), .val (.int i1), .unset, .unset]) rfl ?_
      refine Own.iload X603 at_140 rfl ?_
      refine Own.iconst X603 (v := 2) at_142 rfl ?_
      refine Own.icmp_ X603 (pc' := 158) at_143 (by decide) (fun q => absurd (show (3 : Int) ≤ (2 : Int) from q) (show ¬ ((3 : Int) ≤ (2 : Int)) from by decide)) (fun _ => ?_)
      refine Own.iloadN X603 at_146 rfl ?_
      refine Own.iload X603 at_147 rfl ?_
      refine Own.icmp_ X603 (pc' := 158) at_149 (by decide) (fun _ => ?_) (fun q => absurd (show i1.toInt ≤ i2.toInt from by omega) q)
      refine Own.iload X603 at_158 rfl ?_
      refine Own.ifeqB X603 (pc' := 182) at_160 (by decide) (fun (h160 : ¬ (¬ ((i4 &&& (4 : Int32)).toInt = (0 : Int)))) => ?_) (fun (h160 : ¬ ((i4 &&& (4 : Int32)).toInt = (0 : Int))) => ?_)
      · exact tl_11 l Z a0 hw (3 : Int32) (Own.bo (¬ ((i4 &&& (4 : Int32)).toInt = (0 : Int)))) i1 sa0 sa1 sa2 sa3 pl_72_393 x0_72_393 x1_72_393 x2_72_393 k_pl_72_393 c_pl_72_393 (X603.more (by decide) (by decide)) Z615 F608 G603_0 G603_6 F609 F614 F611
      · rcases own_off i3 i2 i1 with oo | oo | oo
        · refine Own.aload X603 at_163 rfl rfl ?_
          refine Own.aload X603 at_165 rfl rfl ?_
          refine Own.iloadN X603 at_167 rfl ?_
          obtain ⟨d168, e_d168⟩ : ∃ v, FP.i2d i3 = v := ⟨_, rfl⟩
          obtain ⟨f_d168, z_d168⟩ := Own.i2d_v e_d168
          have n_d168 := f_d168.noNaN
          refine Own.i2d X603 at_168 e_d168 ?_
          refine Own.callV_ (y := mn_11) (z := mn_11) (a := pop) X603 at_169 (Own.wd hw 55 rfl) (Own.wd hw 56 rfl) (Own.wd hw 58 rfl) (Own.wd hw 57 rfl) rfl (Own.wd hw 3 rfl) (Own.wd hw 59 rfl) (by decide) F608 (rm6_2N l Z a0 hw pop sa3 d168 pl_72_393 oa_72_393 na_72_393 x0_72_393 x1_72_393 x2_72_393 k_pl_72_393 c_pl_72_393 k_oa_72_393 k_na_72_393 d82 d97 d112 (0 : Int64) ((0 : Int64) + (1 : Int64)) (((0 : Int64) + (1 : Int64)) + (1 : Int64)) ((((0 : Int64) + (1 : Int64)) + (1 : Int64)) + (1 : Int64)) k_sa3 (3 : Int32) (1 : Int32) (0 : Int32) (1 : Int32) (2 : Int32) h603 n0 Z615 F608 G603_0 G603_1 G603_2 G603_3 G603_4 G603_5 G603_6 F609 F613 F614 G603_7 G603_8 G603_9 F607 ne404 ne428 ne434 ne410 ne416 ne422 U393_3 U393_4 U393_0 U393_1 U393_2 U393_14 (Ne.symm U393_7) (Ne.symm U393_10) (Ne.symm U393_12) (Ne.symm U393_8) (Ne.symm U393_11) (Ne.symm U393_13) U393_5 U393_6 U393_9 ne379 ne403 ne427 ne433 ne409 ne415 ne421 fr380 fr411 fr417 fr423 fr429 fr435 n_d168 n_d82 n_d97 n_d112 (by rw [z_d168, z_d112]; exact Own.U_lt.mpr (by omega)) d97 (by decide) rfl n_d97 (by rw [z_d168, z_d97]; exact Own.U_lt.mpr (by omega)) (by decide) (by decide) (by decide)) (lenOf pd_10 rfl) rfl (argsL := [.ref sa3, .double d168]) (rest := []) rfl (W := 0) (Nat.le_of_eq rfl) (by decide) (by decide) (by decide) (by decide) fun T616 h616 v616 X616 q616 => ?_
          obtain ⟨rfl, K616, G616_0, G616_1, G616_2⟩ := q616
          have F617 := F607.keep K616 (ninS ne379 (ninS ne421 (ninS ne427 (ninS ne433 nin0))))
          have F618 := F608.keep K616
          have F619 := F609.keep K616 (ninS (Ne.symm ne404) (ninS U393_2 (ninS U393_3 (ninS U393_4 nin0))))
          have F620 := F610.keep K616
          have F621 := F611.keep K616
          have F622 := F612.keep K616
          have F623 := F613.keep K616 (ninS (Ne.symm ne410) (ninS U393_6 (ninS U393_7 (ninS U393_8 nin0))))
          have F624 := F614.keep K616 (ninS (Ne.symm ne416) (ninS U393_9 (ninS U393_10 (ninS U393_11 nin0))))
          have Z625 : n0 ≤ h616.size := Nat.le_trans Z615 K616.1
          show Own.Go p e below s n0 _ _ _ (T616.setTop (mkF m 172 _ [.int (1 : Int32)]))
          clear F607 F608 F609 F610 F611 F612 F613 F614 G603_0 G603_1 G603_2 G603_3 G603_4 G603_5 G603_6 G603_7 G603_8 G603_9 X603
          refine Own.pop X616 at_172 rfl ?_
          refine Own.iloadN X616 at_173 rfl ?_
          refine Own.iload X616 at_174 rfl ?_
          refine Own.icmp_ X616 (pc' := 182) at_176 (by decide) (fun q => absurd (show i1.toInt ≤ i3.toInt from q) (show ¬ (i1.toInt ≤ i3.toInt) from by omega)) (fun _ => ?_)
          refine Own.iconst X616 (v := 3) at_179 rfl ?_
          refine Own.istore X616 at_180 (l' := #[.val (.int i0), .val (.int i1), .val (.int i2), .val (.int i3), .val (.int i4), .val (.int (3 : Int32)), .val (.int (Own.bo (¬ ((i4 &&& (4 : Int32)).toInt = (0 : Int))))), .val (.ref sa0), .val (.ref sa1), .val (.ref sa2), .val (.ref sa3), .val (.ref pop), .val (.int (3 : Int32)), .val (.int i1), .unset, .unset]) rfl ?_
          exact tl_23 l Z a0 hw (3 : Int32) (Own.bo (¬ ((i4 &&& (4 : Int32)).toInt = (0 : Int)))) i1 sa0 sa1 sa2 sa3 pl_72_393 x0_72_393 x1_72_393 x2_72_393 k_pl_72_393 c_pl_72_393 (X616.more (by decide) (by decide)) Z625 F618 G616_0 G616_1 F619 G616_2 F622
        · refine Own.aload X603 at_163 rfl rfl ?_
          refine Own.aload X603 at_165 rfl rfl ?_
          refine Own.iloadN X603 at_167 rfl ?_
          obtain ⟨d168, e_d168⟩ : ∃ v, FP.i2d i3 = v := ⟨_, rfl⟩
          obtain ⟨f_d168, z_d168⟩ := Own.i2d_v e_d168
          have n_d168 := f_d168.noNaN
          refine Own.i2d X603 at_168 e_d168 ?_
          refine Own.callV_ (y := mn_11) (z := mn_11) (a := pop) X603 at_169 (Own.wd hw 55 rfl) (Own.wd hw 56 rfl) (Own.wd hw 58 rfl) (Own.wd hw 57 rfl) rfl (Own.wd hw 3 rfl) (Own.wd hw 59 rfl) (by decide) F608 (rm6_2A l Z a0 hw pop sa3 d168 pl_72_393 oa_72_393 na_72_393 x0_72_393 x1_72_393 x2_72_393 k_pl_72_393 c_pl_72_393 k_oa_72_393 k_na_72_393 d82 d97 d112 (0 : Int64) ((0 : Int64) + (1 : Int64)) (((0 : Int64) + (1 : Int64)) + (1 : Int64)) ((((0 : Int64) + (1 : Int64)) + (1 : Int64)) + (1 : Int64)) k_sa3 (3 : Int32) (1 : Int32) (0 : Int32) (1 : Int32) (2 : Int32) h603 n0 Z615 F608 G603_0 G603_1 G603_2 G603_3 G603_4 G603_5 G603_6 F609 F613 F614 G603_7 G603_8 G603_9 F607 ne404 ne428 ne434 ne410 ne416 ne422 U393_3 U393_4 U393_0 U393_1 U393_2 U393_14 (Ne.symm U393_7) (Ne.symm U393_10) (Ne.symm U393_12) (Ne.symm U393_8) (Ne.symm U393_11) (Ne.symm U393_13) U393_5 U393_6 U393_9 ne379 ne403 ne427 ne433 ne409 ne415 ne421 fr380 fr411 fr417 fr423 fr429 fr435 n_d168 n_d82 n_d97 n_d112 (by rw [z_d168, z_d112]; exact Own.U_lt.mpr (by omega)) d97 (by decide) rfl n_d97 (by rw [z_d97, z_d168]; exact Own.U_le.mpr (by omega)) (by decide) (by decide) (by decide)) (lenOf pd_10 rfl) rfl (argsL := [.ref sa3, .double d168]) (rest := []) rfl (W := 0) (Nat.le_of_eq rfl) (by decide) (by decide) (by decide) (by decide) fun T626 h626 v626 X626 q626 => ?_
          obtain ⟨rfl, K626, G626_0, G626_1, G626_2⟩ := q626
          have F627 := F607.keep K626 (ninS ne379 (ninS ne421 (ninS ne427 (ninS ne433 nin0))))
          have F628 := F608.keep K626
          have F629 := F609.keep K626 (ninS (Ne.symm ne404) (ninS U393_2 (ninS U393_3 (ninS U393_4 nin0))))
          have F630 := F610.keep K626
          have F631 := F611.keep K626
          have F632 := F612.keep K626
          have F633 := F613.keep K626 (ninS (Ne.symm ne410) (ninS U393_6 (ninS U393_7 (ninS U393_8 nin0))))
          have F634 := F614.keep K626 (ninS (Ne.symm ne416) (ninS U393_9 (ninS U393_10 (ninS U393_11 nin0))))
          have Z635 : n0 ≤ h626.size := Nat.le_trans Z615 K626.1
          show Own.Go p e below s n0 _ _ _ (T626.setTop (mkF m 172 _ [.int (0 : Int32)]))
          clear F607 F608 F609 F610 F611 F612 F613 F614 G603_0 G603_1 G603_2 G603_3 G603_4 G603_5 G603_6 G603_7 G603_8 G603_9 X603
          refine Own.pop X626 at_172 rfl ?_
          refine Own.iloadN X626 at_173 rfl ?_
          refine Own.iload X626 at_174 rfl ?_
          refine Own.icmp_ X626 (pc' := 182) at_176 (by decide) (fun _ => ?_) (fun q => absurd (show i1.toInt ≤ i3.toInt from by omega) q)
          exact tl_11 l Z a0 hw (3 : Int32) (Own.bo (¬ ((i4 &&& (4 : Int32)).toInt = (0 : Int)))) i1 sa0 sa1 sa2 sa3 pl_72_393 x0_72_393 x1_72_393 x2_72_393 k_pl_72_393 c_pl_72_393 (X626.more (by decide) (by decide)) Z635 F628 G626_0 G626_1 F629 F634 F631
        · refine Own.aload X603 at_163 rfl rfl ?_
          refine Own.aload X603 at_165 rfl rfl ?_
          refine Own.iloadN X603 at_167 rfl ?_
          obtain ⟨d168, e_d168⟩ : ∃ v, FP.i2d i3 = v := ⟨_, rfl⟩
          obtain ⟨f_d168, z_d168⟩ := Own.i2d_v e_d168
          have n_d168 := f_d168.noNaN
          refine Own.i2d X603 at_168 e_d168 ?_
          refine Own.callV_ (y := mn_11) (z := mn_11) (a := pop) X603 at_169 (Own.wd hw 55 rfl) (Own.wd hw 56 rfl) (Own.wd hw 58 rfl) (Own.wd hw 57 rfl) rfl (Own.wd hw 3 rfl) (Own.wd hw 59 rfl) (by decide) F608 (rm6_2R l Z a0 hw pop sa3 d168 oa_72_393 k_oa_72_393 d82 d97 d112 h603 n0 Z615 G603_1 G603_5 G603_8 n_d168 n_d112 (by rw [z_d112, z_d168]; exact Own.U_le.mpr (by omega))) (lenOf pd_10 rfl) rfl (argsL := [.ref sa3, .double d168]) (rest := []) rfl (W := 0) (Nat.le_of_eq rfl) (by decide) (by decide) (by decide) (by decide) fun T636 h636 v636 X636 q636 => ?_
          obtain ⟨rfl, rfl⟩ := q636
          show Own.Go p e below s n0 _ _ _ (T636.setTop (mkF m 172 _ [.int (0 : Int32)]))
          clear X603
          refine Own.pop X636 at_172 rfl ?_
          refine Own.iloadN X636 at_173 rfl ?_
          refine Own.iload X636 at_174 rfl ?_
          refine Own.icmp_ X636 (pc' := 182) at_176 (by decide) (fun _ => ?_) (fun q => absurd (show i1.toInt ≤ i3.toInt from by omega) q)
          exact tl_11 l Z a0 hw (3 : Int32) (Own.bo (¬ ((i4 &&& (4 : Int32)).toInt = (0 : Int)))) i1 sa0 sa1 sa2 sa3 pl_72_393 x0_72_393 x1_72_393 x2_72_393 k_pl_72_393 c_pl_72_393 (X636.more (by decide) (by decide)) Z615 F608 G603_0 G603_6 F609 F614 F611
    · refine Own.iload X436 at_86 rfl ?_
      refine Own.iconst X436 (v := 1) at_88 rfl ?_
      refine Own.icmp_ X436 (pc' := 101) at_89 (by decide) (fun q => absurd (show (3 : Int) ≤ (1 : Int) from q) (show ¬ ((3 : Int) ≤ (1 : Int)) from by decide)) (fun _ => ?_)
      refine Own.aload X436 at_92 rfl rfl ?_
      refine Own.aload X436 at_94 rfl rfl ?_
      refine Own.iloadN X436 at_96 rfl ?_
      obtain ⟨d97, e_d97⟩ : ∃ v, FP.i2d i1 = v := ⟨_, rfl⟩
      obtain ⟨f_d97, z_d97⟩ := Own.i2d_v e_d97
      have n_d97 := f_d97.noNaN
      refine Own.i2d X436 at_97 e_d97 ?_
      refine Own.callV_ (y := mn_3) (z := mn_3) (a := pop) X436 at_98 (Own.wd hw 20 rfl) (Own.wd hw 21 rfl) (Own.wd hw 23 rfl) (Own.wd hw 22 rfl) rfl (Own.wd hw 3 rfl) (Own.wd hw 24 rfl) (by decide) F441 (rm3_10001 l Z a0 hw pop sa1 d97 pl_72_393 oa_72_393 na_72_393 x0_72_393 x1_72_393 x2_72_393 k_pl_72_393 c_pl_72_393 k_oa_72_393 k_na_72_393 d82 0 0 (0 : Int64) (0 : Int64) (0 : Int64) ((0 : Int64) + (1 : Int64)) k_sa1 (1 : Int32) (0 : Int32) h436 n0 Z448 F441 G436_0 G436_1 G436_2 G436_3 G436_4 G436_5 G436_6 F442 F443 G436_8 G436_9 F438 ne404 ne428 ne434 ne410 ne416 ne422 U393_3 U393_4 U393_0 U393_1 U393_2 U393_14 (Ne.symm U393_7) (Ne.symm U393_10) (Ne.symm U393_12) (Ne.symm U393_8) (Ne.symm U393_11) (Ne.symm U393_13) U393_5 U393_6 U393_9 ne377 ne401 ne425 ne431 ne407 ne413 ne419 fr380 fr411 fr417 fr423 fr429 fr435 n_d97 n_d82 (by rw [z_d97, z_d82]; exact Own.U_le.mpr (by omega)) (by rw [z_d97, z_d82]; exact Own.U_lt.mpr (by omega))) (lenOf pd_13 rfl) rfl (argsL := [.ref sa1, .double d97]) (rest := []) rfl (W := 0) (Nat.le_of_eq rfl) (by decide) (by decide) (by decide) (by decide) fun T637 h637 v637 X637 q637 => ?_
      obtain ⟨rfl, K637, G637_0, G637_1, G637_2, G637_3, G637_4, G637_5, G637_6, G637_7, G637_8, G637_9⟩ := q637
      have F638 := F437.keep K637 (ninS ne376 (ninS ne412 (ninS ne424 (ninS ne430 nin0))))
      have F639 := F438.keep K637 (ninS ne377 (ninS ne413 (ninS ne425 (ninS ne431 nin0))))
      have F640 := F439.keep K637 (ninS ne378 (ninS ne414 (ninS ne426 (ninS ne432 nin0))))
      have F641 := F440.keep K637 (ninS ne379 (ninS ne415 (ninS ne427 (ninS ne433 nin0))))
      have F642 := F441.keep K637
      have F643 := F442.keep K637 (ninS (Ne.symm ne404) (ninS U393_1 (ninS U393_3 (ninS U393_4 nin0))))
      have F644 := F444.keep K637 (ninS (Ne.symm ne422) (ninS (Ne.symm U393_9) (ninS U393_12 (ninS U393_13 nin0))))
      have F645 := F445.keep K637
      have F646 := F446.keep K637
      have F647 := F447.keep K637
      have F648 := G436_7.keep K637 (ninS (Ne.symm ne410) (ninS U393_5 (ninS U393_7 (ninS U393_8 nin0))))
      have Z649 : n0 ≤ h637.size := Nat.le_trans Z448 K637.1
      show Own.Go p e below s n0 _ _ _ (T637.setTop (mkF m 101 _ []))
      clear F437 F438 F439 F440 F441 F442 F443 F444 F445 F446 F447 G436_0 G436_1 G436_2 G436_3 G436_4 G436_5 G436_6 G436_7 G436_8 G436_9 X436
      refine Own.iload X637 at_101 rfl ?_
      refine Own.iconst X637 (v := 2) at_103 rfl ?_
      refine Own.icmp_ X637 (pc' := 116) at_104 (by decide) (fun q => absurd (show (3 : Int) ≤ (2 : Int) from q) (show ¬ ((3 : Int) ≤ (2 : Int)) from by decide)) (fun _ => ?_)
      refine Own.aload X637 at_107 rfl rfl ?_
      refine Own.aload X637 at_109 rfl rfl ?_
      refine Own.iloadN X637 at_111 rfl ?_
      obtain ⟨d112, e_d112⟩ : ∃ v, FP.i2d i2 = v := ⟨_, rfl⟩
      obtain ⟨f_d112, z_d112⟩ := Own.i2d_v e_d112
      have n_d112 := f_d112.noNaN
      refine Own.i2d X637 at_112 e_d112 ?_
      refine Own.callV_ (y := mn_3) (z := mn_3) (a := pop) X637 at_113 (Own.wd hw 20 rfl) (Own.wd hw 21 rfl) (Own.wd hw 23 rfl) (Own.wd hw 22 rfl) rfl (Own.wd hw 3 rfl) (Own.wd hw 24 rfl) (by decide) F642 (rm3_20102 l Z a0 hw pop sa2 d112 pl_72_393 oa_72_393 na_72_393 x0_72_393 x1_72_393 x2_72_393 k_pl_72_393 c_pl_72_393 k_oa_72_393 k_na_72_393 d82 d97 0 (0 : Int64) ((0 : Int64) + (1 : Int64)) (0 : Int64) (((0 : Int64) + (1 : Int64)) + (1 : Int64)) k_sa2 (2 : Int32) (0 : Int32) h637 n0 Z649 F642 G637_0 G637_1 G637_2 G637_3 G637_4 G637_5 G637_6 F643 F644 G637_8 G637_9 F640 ne404 ne428 ne434 ne410 ne416 ne422 U393_3 U393_4 U393_0 U393_1 U393_2 U393_14 (Ne.symm U393_7) (Ne.symm U393_10) (Ne.symm U393_12) (Ne.symm U393_8) (Ne.symm U393_11) (Ne.symm U393_13) U393_5 U393_6 U393_9 ne378 ne402 ne426 ne432 ne408 ne414 ne420 fr380 fr411 fr417 fr423 fr429 fr435 n_d112 n_d82 n_d97 (by rw [z_d112, z_d82]; exact Own.U_le.mpr (by omega)) (by rw [z_d112, z_d97]; exact Own.U_lt.mpr (by omega))) (lenOf pd_13 rfl) rfl (argsL := [.ref sa2, .double d112]) (rest := []) rfl (W := 0) (Nat.le_of_eq rfl) (by decide) (by decide) (by decide) (by decide) fun T650 h650 v650 X650 q650 => ?_
      obtain ⟨rfl, K650, G650_0, G650_1, G650_2, G650_3, G650_4, G650_5, G650_6, G650_7, G650_8, G650_9⟩ := q650
      have F651 := F638.keep K650 (ninS ne376 (ninS ne418 (ninS ne424 (ninS ne430 nin0))))
      have F652 := F639.keep K650 (ninS ne377 (ninS ne419 (ninS ne425 (ninS ne431 nin0))))
      have F653 := F640.keep K650 (ninS ne378 (ninS ne420 (ninS ne426 (ninS ne432 nin0))))
      have F654 := F641.keep K650 (ninS ne379 (ninS ne421 (ninS ne427 (ninS ne433 nin0))))
      have F655 := F642.keep K650
      have F656 := F643.keep K650 (ninS (Ne.symm ne404) (ninS U393_2 (ninS U393_3 (ninS U393_4 nin0))))
      have F657 := F645.keep K650
      have F658 := F646.keep K650
      have F659 := F647.keep K650
      have F660 := F648.keep K650 (ninS (Ne.symm ne410) (ninS U393_6 (ninS U393_7 (ninS U393_8 nin0))))
      have F661 := G637_7.keep K650 (ninS (Ne.symm ne416) (ninS U393_9 (ninS U393_10 (ninS U393_11 nin0))))
      have Z662 : n0 ≤ h650.size := Nat.le_trans Z649 K650.1
      show Own.Go p e below s n0 _ _ _ (T650.setTop (mkF m 116 _ []))
      clear F638 F639 F640 F641 F642 F643 F644 F645 F646 F647 F648 G637_0 G637_1 G637_2 G637_3 G637_4 G637_5 G637_6 G637_7 G637_8 G637_9 X637
      refine Own.iconst X650 (v := 0) at_116 rfl ?_
      refine Own.istore X650 at_117 (l' := #[.val (.int i0), .val (.int i1), .val (.int i2), .val (.int i3), .val (.int i4), .val (.int (3 : Int32)), .val (.int (Own.bo (¬ ((i4 &&& (4 : Int32)).toInt = (0 : Int))))), .val (.ref sa0), .val (.ref sa1), .val (.ref sa2), .val (.ref sa3), .val (.ref pop), .val (.int (0 : Int32)), .unset, .unset, .unset]) rfl ?_
      refine Own.iloadN X650 at_119 rfl ?_
      refine Own.istore X650 at_120 (l' := #[.val (.int i0), .val (.int i1), .val (.int i2), .val (.int i3), .val (.int i4), .val (.int (3 : Int32)), .val (.int (Own.bo (¬ ((i4 &&& (4 : Int32)).toInt = (0 : Int))))), .val (.ref sa0), .val (.ref sa1), .val (.ref sa2), .val (.ref sa3), .val (.ref pop), .val (.int (0 : Int32)), .val (.int i0), .unset, .unset]) rfl ?_
      refine Own.iload X650 at_122 rfl ?_
      refine Own.iconst X650 (v := 1) at_124 rfl ?_
      refine Own.icmp_ X650 (pc' := 140) at_125 (by decide) (fun q => absurd (show (3 : Int) ≤ (1 : Int) from q) (show ¬ ((3 : Int) ≤ (1 : Int)) from by decide)) (fun _ => ?_)
      refine Own.iloadN X650 at_128 rfl ?_
      refine Own.iload X650 at_129 rfl ?_
      refine Own.icmp_ X650 (pc' := 140) at_131 (by decide) (fun q => absurd (show i0.toInt ≤ i1.toInt from q) (show ¬ (i0.toInt ≤ i1.toInt) from by omega)) (fun _ => ?_)
      refine Own.iconst X650 (v := 1) at_134 rfl ?_
      refine Own.istore X650 at_135 (l' := #[.val (.int i0), .val (.int i1), .val (.int i2), .val (.int i3), .val (.int i4), .val (.int (3 : Int32)), .val (.int (Own.bo (¬ ((i4 &&& (4 : Int32)).toInt = (0 : Int))))), .val (.ref sa0), .val (.ref sa1), .val (.ref sa2), .val (.ref sa3), .val (.ref pop), .val (.int (1 : Int32)), .val (.int i0), .unset, .unset]) rfl ?_
      refine Own.iloadN X650 at_137 rfl ?_
      refine Own.istore X650 at_138 (l' := #[.val (.int i0), .val (.int i1), .val (.int i2), .val (.int i3), .val (.int i4), .val (.int (3 : Int32)), .val (.int (Own.bo (¬ ((i4 &&& (4 : Int32)).toInt = (0 : Int))))), .val (.ref sa0), .val (.ref sa1), .val (.ref sa2), .val (.ref sa3), .val (.ref pop), .val (.int (1 : Int32)), .val (.int i1), .unset, .unset]) rfl ?_
      refine Own.iload X650 at_140 rfl ?_
      refine Own.iconst X650 (v := 2) at_142 rfl ?_
      refine Own.icmp_ X650 (pc' := 158) at_143 (by decide) (fun q => absurd (show (3 : Int) ≤ (2 : Int) from q) (show ¬ ((3 : Int) ≤ (2 : Int)) from by decide)) (fun _ => ?_)
      refine Own.iloadN X650 at_146 rfl ?_
      refine Own.iload X650 at_147 rfl ?_
      refine Own.icmp_ X650 (pc' := 158) at_149 (by decide) (fun q => absurd (show i1.toInt ≤ i2.toInt from q) (show ¬ (i1.toInt ≤ i2.toInt) from by omega)) (fun _ => ?_)
      refine Own.iconst X650 (v := 2) at_152 rfl ?_
      refine Own.istore X650 at_153 (l' := #[.val (.int i0), .val (.int i1), .val (.int i2), .val (.int i3), .val (.int i4), .val (.int (3 : Int32)), .val (.int (Own.bo (¬ ((i4 &&& (4 : Int32)).toInt = (0 : Int))))), .val (.ref sa0), .val (.ref sa1), .val (.ref sa2), .val (.ref sa3), .val (.ref pop), .val (.int (2 : Int32)), .val (.int i1), .unset, .unset]) rfl ?_
      refine Own.iloadN X650 at_155 rfl ?_
      refine Own.istore X650 at_156 (l' := #[.val (.int i0), .val (.int i1), .val (.int i2), .val (.int i3), .val (.int i4), .val (.int (3 : Int32)), .val (.int (Own.bo (¬ ((i4 &&& (4 : Int32)).toInt = (0 : Int))))), .val (.ref sa0), .val (.ref sa1), .val (.ref sa2), .val (.ref sa3), .val (.ref pop), .val (.int (2 : Int32)), .val (.int i2), .unset, .unset]) rfl ?_
      refine Own.iload X650 at_158 rfl ?_
      refine Own.ifeqB X650 (pc' := 182) at_160 (by decide) (fun (h160 : ¬ (¬ ((i4 &&& (4 : Int32)).toInt = (0 : Int)))) => ?_) (fun (h160 : ¬ ((i4 &&& (4 : Int32)).toInt = (0 : Int))) => ?_)
      · exact tl_22 l Z a0 hw (3 : Int32) (Own.bo (¬ ((i4 &&& (4 : Int32)).toInt = (0 : Int)))) i2 sa0 sa1 sa2 sa3 pl_72_393 x0_72_393 x1_72_393 x2_72_393 k_pl_72_393 c_pl_72_393 (X650.more (by decide) (by decide)) Z662 F655 G650_0 G650_6 F656 G650_7 F659
      · rcases own_off i3 i0 i2 with oo | oo | oo
        · refine Own.aload X650 at_163 rfl rfl ?_
          refine Own.aload X650 at_165 rfl rfl ?_
          refine Own.iloadN X650 at_167 rfl ?_
          obtain ⟨d168, e_d168⟩ : ∃ v, FP.i2d i3 = v := ⟨_, rfl⟩
          obtain ⟨f_d168, z_d168⟩ := Own.i2d_v e_d168
          have n_d168 := f_d168.noNaN
          refine Own.i2d X650 at_168 e_d168 ?_
          refine Own.callV_ (y := mn_11) (z := mn_11) (a := pop) X650 at_169 (Own.wd hw 55 rfl) (Own.wd hw 56 rfl) (Own.wd hw 58 rfl) (Own.wd hw 57 rfl) rfl (Own.wd hw 3 rfl) (Own.wd hw 59 rfl) (by decide) F655 (rm6_0N l Z a0 hw pop sa3 d168 pl_72_393 oa_72_393 na_72_393 x0_72_393 x1_72_393 x2_72_393 k_pl_72_393 c_pl_72_393 k_oa_72_393 k_na_72_393 d82 d97 d112 (0 : Int64) ((0 : Int64) + (1 : Int64)) (((0 : Int64) + (1 : Int64)) + (1 : Int64)) ((((0 : Int64) + (1 : Int64)) + (1 : Int64)) + (1 : Int64)) k_sa3 (3 : Int32) (2 : Int32) (0 : Int32) (1 : Int32) (2 : Int32) h650 n0 Z662 F655 G650_0 G650_1 G650_2 G650_3 G650_4 G650_5 G650_6 F656 F660 F661 G650_7 G650_8 G650_9 F654 ne404 ne428 ne434 ne410 ne416 ne422 U393_3 U393_4 U393_0 U393_1 U393_2 U393_14 (Ne.symm U393_7) (Ne.symm U393_10) (Ne.symm U393_12) (Ne.symm U393_8) (Ne.symm U393_11) (Ne.symm U393_13) U393_5 U393_6 U393_9 ne379 ne403 ne427 ne433 ne409 ne415 ne421 fr380 fr411 fr417 fr423 fr429 fr435 n_d168 n_d82 n_d97 n_d112 (by rw [z_d168, z_d82]; exact Own.U_lt.mpr (by omega)) d112 (by decide) rfl n_d112 (by rw [z_d168, z_d112]; exact Own.U_lt.mpr (by omega)) (by decide) (by decide) (by decide)) (lenOf pd_10 rfl) rfl (argsL := [.ref sa3, .double d168]) (rest := []) rfl (W := 0) (Nat.le_of_eq rfl) (by decide) (by decide) (by decide) (by decide) fun T663 h663 v663 X663 q663 => ?_
          obtain ⟨rfl, K663, G663_0, G663_1, G663_2⟩ := q663
          have F664 := F654.keep K663 (ninS ne379 (ninS ne409 (ninS ne427 (ninS ne433 nin0))))
          have F665 := F655.keep K663
          have F666 := F656.keep K663 (ninS (Ne.symm ne404) (ninS U393_0 (ninS U393_3 (ninS U393_4 nin0))))
          have F667 := F657.keep K663
          have F668 := F658.keep K663
          have F669 := F659.keep K663
          have F670 := F661.keep K663 (ninS (Ne.symm ne416) (ninS (Ne.symm U393_5) (ninS U393_10 (ninS U393_11 nin0))))
          have F671 := G650_7.keep K663 (ninS (Ne.symm ne422) (ninS (Ne.symm U393_6) (ninS U393_12 (ninS U393_13 nin0))))
          have Z672 : n0 ≤ h663.size := Nat.le_trans Z662 K663.1
          show Own.Go p e below s n0 _ _ _ (T663.setTop (mkF m 172 _ [.int (1 : Int32)]))
          clear F654 F655 F656 F657 F658 F659 F660 F661 G650_0 G650_1 G650_2 G650_3 G650_4 G650_5 G650_6 G650_7 G650_8 G650_9 X650
          refine Own.pop X663 at_172 rfl ?_
          refine Own.iloadN X663 at_173 rfl ?_
          refine Own.iload X663 at_174 rfl ?_
          refine Own.icmp_ X663 (pc' := 182) at_176 (by decide) (fun q => absurd (show i2.toInt ≤ i3.toInt from q) (show ¬ (i2.toInt ≤ i3.toInt) from by omega)) (fun _ => ?_)
          refine Own.iconst X663 (v := 3) at_179 rfl ?_
          refine Own.istore X663 at_180 (l' := #[.val (.int i0), .val (.int i1), .val (.int i2), .val (.int i3), .val (.int i4), .val (.int (3 : Int32)), .val (.int (Own.bo (¬ ((i4 &&& (4 : Int32)).toInt = (0 : Int))))), .val (.ref sa0), .val (.ref sa1), .val (.ref sa2), .val (.ref sa3), .val (.ref pop), .val (.int (3 : Int32)), .val (.int i2), .unset, .unset]) rfl ?_
          exact tl_03 l Z a0 hw (3 : Int32) (Own.bo (¬ ((i4 &&& (4 : Int32)).toInt = (0 : Int)))) i2 sa0 sa1 sa2 sa3 pl_72_393 x0_72_393 x1_72_393 x2_72_393 k_pl_72_393 c_pl_72_393 (X663.more (by decide) (by decide)) Z672 F665 G663_0 G663_1 F666 G663_2 F667
        · refine Own.aload X650 at_163 rfl rfl ?_
          refine Own.aload X650 at_165 rfl rfl ?_
          refine Own.iloadN X650 at_167 rfl ?_
          obtain ⟨d168, e_d168⟩ : ∃ v, FP.i2d i3 = v := ⟨_, rfl⟩
          obtain ⟨f_d168, z_d168⟩ := Own.i2d_v e_d168
          have n_d168 := f_d168.noNaN
          refine Own.i2d X650 at_168 e_d168 ?_
          refine Own.callV_ (y := mn_11) (z := mn_11) (a := pop) X650 at_169 (Own.wd hw 55 rfl) (Own.wd hw 56 rfl) (Own.wd hw 58 rfl) (Own.wd hw 57 rfl) rfl (Own.wd hw 3 rfl) (Own.wd hw 59 rfl) (by decide) F655 (rm6_0A l Z a0 hw pop sa3 d168 pl_72_393 oa_72_393 na_72_393 x0_72_393 x1_72_393 x2_72_393 k_pl_72_393 c_pl_72_393 k_oa_72_393 k_na_72_393 d82 d97 d112 (0 : Int64) ((0 : Int64) + (1 : Int64)) (((0 : Int64) + (1 : Int64)) + (1 : Int64)) ((((0 : Int64) + (1 : Int64)) + (1 : Int64)) + (1 : Int64)) k_sa3 (3 : Int32) (2 : Int32) (0 : Int32) (1 : Int32) (2 : Int32) h650 n0 Z662 F655 G650_0 G650_1 G650_2 G650_3 G650_4 G650_5 G650_6 F656 F660 F661 G650_7 G650_8 G650_9 F654 ne404 ne428 ne434 ne410 ne416 ne422 U393_3 U393_4 U393_0 U393_1 U393_2 U393_14 (Ne.symm U393_7) (Ne.symm U393_10) (Ne.symm U393_12) (Ne.symm U393_8) (Ne.symm U393_11) (Ne.symm U393_13) U393_5 U393_6 U393_9 ne379 ne403 ne427 ne433 ne409 ne415 ne421 fr380 fr411 fr417 fr423 fr429 fr435 n_d168 n_d82 n_d97 n_d112 (by rw [z_d168, z_d82]; exact Own.U_lt.mpr (by omega)) d112 (by decide) rfl n_d112 (by rw [z_d112, z_d168]; exact Own.U_le.mpr (by omega)) (by decide) (by decide) (by decide)) (lenOf pd_10 rfl) rfl (argsL := [.ref sa3, .double d168]) (rest := []) rfl (W := 0) (Nat.le_of_eq rfl) (by decide) (by decide) (by decide) (by decide) fun T673 h673 v673 X673 q673 => ?_
          obtain ⟨rfl, K673, G673_0, G673_1, G673_2⟩ := q673
          have F674 := F654.keep K673 (ninS ne379 (ninS ne409 (ninS ne427 (ninS ne433 nin0))))
          have F675 := F655.keep K673
          have F676 := F656.keep K673 (ninS (Ne.symm ne404) (ninS U393_0 (ninS U393_3 (ninS U393_4 nin0))))
          have F677 := F657.keep K673
          have F678 := F658.keep K673
          have F679 := F659.keep K673
          have F680 := F661.keep K673 (ninS (Ne.symm ne416) (ninS (Ne.symm U393_5) (ninS U393_10 (ninS U393_11 nin0))))
          have F681 := G650_7.keep K673 (ninS (Ne.symm ne422) (ninS (Ne.symm U393_6) (ninS U393_12 (ninS U393_13 nin0))))
          have Z682 : n0 ≤ h673.size := Nat.le_trans Z662 K673.1
          show Own.Go p e below s n0 _ _ _ (T673.setTop (mkF m 172 _ [.int (0 : Int32)]))
          clear F654 F655 F656 F657 F658 F659 F660 F661 G650_0 G650_1 G650_2 G650_3 G650_4 G650_5 G650_6 G650_7 G650_8 G650_9 X650
          refine Own.pop X673 at_172 rfl ?_
          refine Own.iloadN X673 at_173 rfl ?_
          refine Own.iload X673 at_174 rfl ?_
          refine Own.icmp_ X673 (pc' := 182) at_176 (by decide) (fun _ => ?_) (fun q => absurd (show i2.toInt ≤ i3.toInt from by omega) q)
          exact tl_22 l Z a0 hw (3 : Int32) (Own.bo (¬ ((i4 &&& (4 : Int32)).toInt = (0 : Int)))) i2 sa0 sa1 sa2 sa3 pl_72_393 x0_72_393 x1_72_393 x2_72_393 k_pl_72_393 c_pl_72_393 (X673.more (by decide) (by decide)) Z682 F675 G673_0 G673_1 F676 F681 F679
        · refine Own.aload X650 at_163 rfl rfl ?_
          refine Own.aload X650 at_165 rfl rfl ?_
          refine Own.iloadN X650 at_167 rfl ?_
          obtain ⟨d168, e_d168⟩ : ∃ v, FP.i2d i3 = v := ⟨_, rfl⟩
          obtain ⟨f_d168, z_d168⟩ := Own.i2d_v e_d168
          have n_d168 := f_d168.noNaN
          refine Own.i2d X650 at_168 e_d168 ?_
          refine Own.callV_ (y := mn_11) (z := mn_11) (a := pop) X650 at_169 (Own.wd hw 55 rfl) (Own.wd hw 56 rfl) (Own.wd hw 58 rfl) (Own.wd hw 57 rfl) rfl (Own.wd hw 3 rfl) (Own.wd hw 59 rfl) (by decide) F655 (rm6_0R l Z a0 hw pop sa3 d168 oa_72_393 k_oa_72_393 d82 d97 d112 h650 n0 Z662 G650_1 G650_5 G650_8 n_d168 n_d82 (by rw [z_d82, z_d168]; exact Own.U_le.mpr (by omega))) (lenOf pd_10 rfl) rfl (argsL := [.ref sa3, .double d168]) (rest := []) rfl (W := 0) (Nat.le_of_eq rfl) (by decide) (by decide) (by decide) (by decide) fun T683 h683 v683 X683 q683 => ?_
          obtain ⟨rfl, rfl⟩ := q683
          show Own.Go p e below s n0 _ _ _ (T683.setTop (mkF m 172 _ [.int (0 : Int32)]))
          clear X650
          refine Own.pop X683 at_172 rfl ?_
          refine Own.iloadN X683 at_173 rfl ?_
          refine Own.iload X683 at_174 rfl ?_
          refine Own.icmp_ X683 (pc' := 182) at_176 (by decide) (fun _ => ?_) (fun q => absurd (show i2.toInt ≤ i3.toInt from by omega) q)
          exact tl_22 l Z a0 hw (3 : Int32) (Own.bo (¬ ((i4 &&& (4 : Int32)).toInt = (0 : Int)))) i2 sa0 sa1 sa2 sa3 pl_72_393 x0_72_393 x1_72_393 x2_72_393 k_pl_72_393 c_pl_72_393 (X683.more (by decide) (by decide)) Z662 F655 G650_0 G650_6 F656 G650_7 F659
    · refine Own.iload X436 at_86 rfl ?_
      refine Own.iconst X436 (v := 1) at_88 rfl ?_
      refine Own.icmp_ X436 (pc' := 101) at_89 (by decide) (fun q => absurd (show (3 : Int) ≤ (1 : Int) from q) (show ¬ ((3 : Int) ≤ (1 : Int)) from by decide)) (fun _ => ?_)
      refine Own.aload X436 at_92 rfl rfl ?_
      refine Own.aload X436 at_94 rfl rfl ?_
      refine Own.iloadN X436 at_96 rfl ?_
      obtain ⟨d97, e_d97⟩ : ∃ v, FP.i2d i1 = v := ⟨_, rfl⟩
      obtain ⟨f_d97, z_d97⟩ := Own.i2d_v e_d97
      have n_d97 := f_d97.noNaN
      refine Own.i2d X436 at_97 e_d97 ?_
      refine Own.callV_ (y := mn_3) (z := mn_3) (a := pop) X436 at_98 (Own.wd hw 20 rfl) (Own.wd hw 21 rfl) (Own.wd hw 23 rfl) (Own.wd hw 22 rfl) rfl (Own.wd hw 3 rfl) (Own.wd hw 24 rfl) (by decide) F441 (rm3_10001 l Z a0 hw pop sa1 d97 pl_72_393 oa_72_393 na_72_393 x0_72_393 x1_72_393 x2_72_393 k_pl_72_393 c_pl_72_393 k_oa_72_393 k_na_72_393 d82 0 0 (0 : Int64) (0 : Int64) (0 : Int64) ((0 : Int64) + (1 : Int64)) k_sa1 (1 : Int32) (0 : Int32) h436 n0 Z448 F441 G436_0 G436_1 G436_2 G436_3 G436_4 G436_5 G436_6 F442 F443 G436_8 G436_9 F438 ne404 ne428 ne434 ne410 ne416 ne422 U393_3 U393_4 U393_0 U393_1 U393_2 U393_14 (Ne.symm U393_7) (Ne.symm U393_10) (Ne.symm U393_12) (Ne.symm U393_8) (Ne.symm U393_11) (Ne.symm U393_13) U393_5 U393_6 U393_9 ne377 ne401 ne425 ne431 ne407 ne413 ne419 fr380 fr411 fr417 fr423 fr429 fr435 n_d97 n_d82 (by rw [z_d97, z_d82]; exact Own.U_le.mpr (by omega)) (by rw [z_d97, z_d82]; exact Own.U_lt.mpr (by omega))) (lenOf pd_13 rfl) rfl (argsL := [.ref sa1, .double d97]) (rest := []) rfl (W := 0) (Nat.le_of_eq rfl) (by decide) (by decide) (by decide) (by decide) fun T684 h684 v684 X684 q684 => ?_
      obtain ⟨rfl, K684, G684_0, G684_1, G684_2, G684_3, G684_4, G684_5, G684_6, G684_7, G684_8, G684_9⟩ := q684
      have F685 := F437.keep K684 (ninS ne376 (ninS ne412 (ninS ne424 (ninS ne430 nin0))))
      have F686 := F438.keep K684 (ninS ne377 (ninS ne413 (ninS ne425 (ninS ne431 nin0))))
      have F687 := F439.keep K684 (ninS ne378 (ninS ne414 (ninS ne426 (ninS ne432 nin0))))
      have F688 := F440.keep K684 (ninS ne379 (ninS ne415 (ninS ne427 (ninS ne433 nin0))))
      have F689 := F441.keep K684
      have F690 := F442.keep K684 (ninS (Ne.symm ne404) (ninS U393_1 (ninS U393_3 (ninS U393_4 nin0))))
      have F691 := F444.keep K684 (ninS (Ne.symm ne422) (ninS (Ne.symm U393_9) (ninS U393_12 (ninS U393_13 nin0))))
      have F692 := F445.keep K684
      have F693 := F446.keep K684
      have F694 := F447.keep K684
      have F695 := G436_7.keep K684 (ninS (Ne.symm ne410) (ninS U393_5 (ninS U393_7 (ninS U393_8 nin0))))
      have Z696 : n0 ≤ h684.size := Nat.le_trans Z448 K684.1
      show Own.Go p e below s n0 _ _ _ (T684.setTop (mkF m 101 _ []))
      clear F437 F438 F439 F440 F441 F442 F443 F444 F445 F446 F447 G436_0 G436_1 G436_2 G436_3 G436_4 G436_5 G436_6 G436_7 G436_8 G436_9 X436
      refine Own.iload X684 at_101 rfl ?_
      refine Own.iconst X684 (v := 2) at_103 rfl ?_
      refine Own.icmp_ X684 (pc' := 116) at_104 (by decide) (fun q => absurd (show (3 : Int) ≤ (2 : Int) from q) (show ¬ ((3 : Int) ≤ (2 : Int)) from by decide)) (fun _ => ?_)
      refine Own.aload X684 at_107 rfl rfl ?_
      refine Own.aload X684 at_109 rfl rfl ?_
      refine Own.iloadN X684 at_111 rfl ?_
      obtain ⟨d112, e_d112⟩ : ∃ v, FP.i2d i2 = v := ⟨_, rfl⟩
      obtain ⟨f_d112, z_d112⟩ := Own.i2d_v e_d112
      have n_d112 := f_d112.noNaN
      refine Own.i2d X684 at_112 e_d112 ?_
      refine Own.callV_ (y := mn_3) (z := mn_3) (a := pop) X684 at_113 (Own.wd hw 20 rfl) (Own.wd hw 21 rfl) (Own.wd hw 23 rfl) (Own.wd hw 22 rfl) rfl (Own.wd hw 3 rfl) (Own.wd hw 24 rfl) (by decide) F689 (rm3_20101 l Z a0 hw pop sa2 d112 pl_72_393 oa_72_393 na_72_393 x0_72_393 x1_72_393 x2_72_393 k_pl_72_393 c_pl_72_393 k_oa_72_393 k_na_72_393 d82 d97 0 (0 : Int64) ((0 : Int64) + (1 : Int64)) (0 : Int64) (((0 : Int64) + (1 : Int64)) + (1 : Int64)) k_sa2 (2 : Int32) (0 : Int32) h684 n0 Z696 F689 G684_0 G684_1 G684_2 G684_3 G684_4 G684_5 G684_6 F690 F691 G684_8 G684_9 F687 ne404 ne428 ne434 ne410 ne416 ne422 U393_3 U393_4 U393_0 U393_1 U393_2 U393_14 (Ne.symm U393_7) (Ne.symm U393_10) (Ne.symm U393_12) (Ne.symm U393_8) (Ne.symm U393_11) (Ne.symm U393_13) U393_5 U393_6 U393_9 ne378 ne402 ne426 ne432 ne408 ne414 ne420 fr380 fr411 fr417 fr423 fr429 fr435 n_d112 n_d82 n_d97 (by rw [z_d112, z_d82]; exact Own.U_le.mpr (by omega)) (by rw [z_d97, z_d112]; exact Own.U_le.mpr (by omega))) (lenOf pd_13 rfl) rfl (argsL := [.ref sa2, .double d112]) (rest := []) rfl (W := 0) (Nat.le_of_eq rfl) (by decide) (by decide) (by decide) (by decide) fun T697 h697 v697 X697 q697 => ?_
      obtain ⟨rfl, K697, G697_0, G697_1, G697_2, G697_3, G697_4, G697_5, G697_6, G697_7, G697_8, G697_9⟩ := q697
      have F698 := F685.keep K697 (ninS ne376 (ninS ne418 (ninS ne424 (ninS ne430 nin0))))
      have F699 := F686.keep K697 (ninS ne377 (ninS ne419 (ninS ne425 (ninS ne431 nin0))))
      have F700 := F687.keep K697 (ninS ne378 (ninS ne420 (ninS ne426 (ninS ne432 nin0))))
      have F701 := F688.keep K697 (ninS ne379 (ninS ne421 (ninS ne427 (ninS ne433 nin0))))
      have F702 := F689.keep K697
      have F703 := F690.keep K697 (ninS (Ne.symm ne404) (ninS U393_2 (ninS U393_3 (ninS U393_4 nin0))))
      have F704 := F692.keep K697
      have F705 := F693.keep K697
      have F706 := F694.keep K697
      have F707 := F695.keep K697 (ninS (Ne.symm ne410) (ninS U393_6 (ninS U393_7 (ninS U393_8 nin0))))
      have F708 := G684_7.keep K697 (ninS (Ne.symm ne416) (ninS U393_9 (ninS U393_10 (ninS U393_11 nin0))))
      have Z709 : n0 ≤ h697.size := Nat.le_trans Z696 K697.1
      show Own.Go p e below s n0 _ _ _ (T697.setTop (mkF m 116 _ []))
      clear F685 F686 F687 F688 F689 F690 F691 F692 F693 F694 F695 G684_0 G684_1 G684_2 G684_3 G684_4 G684_5 G684_6 G684_7 G684_8 G684_9 X684
      refine Own.iconst X697 (v := 0) at_116 rfl ?_
      refine Own.istore X697 at_117 (l' := #[.val (.int i0), .val (.int i1), .val (.int i2), .val (.int i3), .val (.int i4), .val (.int (3 : Int32)), .val (.int (Own.bo (¬ ((i4 &&& (4 : Int32)).toInt = (0 : Int))))), .val (.ref sa0), .val (.ref sa1), .val (.ref sa2), .val (.ref sa3), .val (.ref pop), .val (.int (0 : Int32)), .unset, .unset, .unset]) rfl ?_
      refine Own.iloadN X697 at_119 rfl ?_
      refine Own.istore X697 at_120 (l' := #[.val (.int i0), .val (.int i1), .val (.int i2), .val (.int i3), .val (.int i4), .val (.int (3 : Int32)), .val (.int (Own.bo (¬ ((i4 &&& (4 : Int32)).toInt = (0 : Int))))), .val (.ref sa0), .val (.ref sa1), .val (.ref sa2), .val (.ref sa3), .val (.ref pop), .val (.int (0 : Int32)), .val (.int i0), .unset, .unset]) rfl ?_
      refine Own.iload X697 at_122 rfl ?_
      refine Own.iconst X697 (v := 1) at_124 rfl ?_
      refine Own.icmp_ X697 (pc' := 140) at_125 (by decide) (fun q => absurd (show (3 : Int) ≤ (1 : Int) from q) (show ¬ ((3 : Int) ≤ (1 : Int)) from by decide)) (fun _ => ?_)
      refine Own.iloadN X697 at_128 rfl ?_
      refine Own.iload X697 at_129 rfl ?_
      refine Own.icmp_ X697 (pc' := 140) at_131 (by decide) (fun q => absurd (show i0.toInt ≤ i1.toInt from q) (show ¬ (i0.toInt ≤ i1.toInt) from by omega)) (fun _ => ?_)
      refine Own.iconst X697 (v := 1) at_134 rfl ?_
      refine Own.istore X697 at_135 (l' := #[.val (.int i0), .val (.int i1), .val (.int i2), .val (.int i3), .val (.int i4), .val (.int (3 : Int32)), .val (.int (Own.bo (¬ ((i4 &&& (4 : Int32)).toInt = (0 : Int))))), .val (.ref sa0), .val (.ref sa1), .val (.ref sa2), .val (.ref sa3), .val (.ref pop), .val (.int (1 : Int32)), .val (.int i0), .unset, .unset]) rfl ?_
      refine Own.iloadN X697 at_137 rfl ?_
      refine Own.istore X697 at_138 (l' := #[.val (.int i0), .val (.int i1), .val (.int i2), .val (.int i3), .val (.int i4), .val (.int (3 : Int32)), .val (.int (Own.bo (¬ ((i4 &&& (4 : Int32)).toInt = (0 : Int))))), .val (.ref sa0), .val (.ref sa1), .val (.ref sa2), .val (.ref sa3), .val (.ref pop), .val (.int (1 : Int32)), .val (.int i1), .unset, .unset]) rfl ?_
      refine Own.iload X697 at_140 rfl ?_
      refine Own.iconst X697 (v := 2) at_142 rfl ?_
      refine Own.icmp_ X697 (pc' := 158) at_143 (by decide) (fun q => absurd (show (3 : Int) ≤ (2 : Int) from q) (show ¬ ((3 : Int) ≤ (2 : Int)) from by decide)) (fun _ => ?_)
      refine Own.iloadN X697 at_146 rfl ?_
      refine Own.iload X697 at_147 rfl ?_
      refine Own.icmp_ X697 (pc' := 158) at_149 (by decide) (fun _ => ?_) (fun q => absurd (show i1.toInt ≤ i2.toInt from by omega) q)
      refine Own.iload X697 at_158 rfl ?_
      refine Own.ifeqB X697 (pc' := 182) at_160 (by decide) (fun (h160 : ¬ (¬ ((i4 &&& (4 : Int32)).toInt = (0 : Int)))) => ?_) (fun (h160 : ¬ ((i4 &&& (4 : Int32)).toInt = (0 : Int))) => ?_)
      · exact tl_11 l Z a0 hw (3 : Int32) (Own.bo (¬ ((i4 &&& (4 : Int32)).toInt = (0 : Int)))) i1 sa0 sa1 sa2 sa3 pl_72_393 x0_72_393 x1_72_393 x2_72_393 k_pl_72_393 c_pl_72_393 (X697.more (by decide) (by decide)) Z709 F702 G697_0 G697_6 F703 F708 F705
      · rcases own_off i3 i0 i1 with oo | oo | oo
        · refine Own.aload X697 at_163 rfl rfl ?_
          refine Own.aload X697 at_165 rfl rfl ?_
          refine Own.iloadN X697 at_167 rfl ?_
          obtain ⟨d168, e_d168⟩ : ∃ v, FP.i2d i3 = v := ⟨_, rfl⟩
          obtain ⟨f_d168, z_d168⟩ := Own.i2d_v e_d168
          have n_d168 := f_d168.noNaN
          refine Own.i2d X697 at_168 e_d168 ?_
          refine Own.callV_ (y := mn_11) (z := mn_11) (a := pop) X697 at_169 (Own.wd hw 55 rfl) (Own.wd hw 56 rfl) (Own.wd hw 58 rfl) (Own.wd hw 57 rfl) rfl (Own.wd hw 3 rfl) (Own.wd hw 59 rfl) (by decide) F702 (rm6_0N l Z a0 hw pop sa3 d168 pl_72_393 oa_72_393 na_72_393 x0_72_393 x1_72_393 x2_72_393 k_pl_72_393 c_pl_72_393 k_oa_72_393 k_na_72_393 d82 d97 d112 (0 : Int64) ((0 : Int64) + (1 : Int64)) (((0 : Int64) + (1 : Int64)) + (1 : Int64)) ((((0 : Int64) + (1 : Int64)) + (1 : Int64)) + (1 : Int64)) k_sa3 (3 : Int32) (1 : Int32) (0 : Int32) (1 : Int32) (2 : Int32) h697 n0 Z709 F702 G697_0 G697_1 G697_2 G697_3 G697_4 G697_5 G697_6 F703 F707 F708 G697_7 G697_8 G697_9 F701 ne404 ne428 ne434 ne410 ne416 ne422 U393_3 U393_4 U393_0 U393_1 U393_2 U393_14 (Ne.symm U393_7) (Ne.symm U393_10) (Ne.symm U393_12) (Ne.symm U393_8) (Ne.symm U393_11) (Ne.symm U393_13) U393_5 U393_6 U393_9 ne379 ne403 ne427 ne433 ne409 ne415 ne421 fr380 fr411 fr417 fr423 fr429 fr435 n_d168 n_d82 n_d97 n_d112 (by rw [z_d168, z_d82]; exact Own.U_lt.mpr (by omega)) d97 (by decide) rfl n_d97 (by rw [z_d168, z_d97]; exact Own.U_lt.mpr (by omega)) (by decide) (by decide) (by decide)) (lenOf pd_10 rfl) rfl (argsL := [.ref sa3, .double d168]) (rest := []) rfl (W := 0) (Nat.le_of_eq rfl) (by decide) (by decide) (by decide) (by decide) fun T710 h710 v710 X710 q710 => ?_
          obtain ⟨rfl, K710, G710_0, G710_1, G710_2⟩ := q710
          have F711 := F701.keep K710 (ninS ne379 (ninS ne409 (ninS ne427 (ninS ne433 nin0))))
          have F712 := F702.keep K710
          have F713 := F703.keep K710 (ninS (Ne.symm ne404) (ninS U393_0 (ninS U393_3 (ninS U393_4 nin0))))
          have F714 := F704.keep K710
          have F715 := F705.keep K710
          have F716 := F706.keep K710
          have F717 := F708.keep K710 (ninS (Ne.symm ne416) (ninS (Ne.symm U393_5) (ninS U393_10 (ninS U393_11 nin0))))
          have F718 := G697_7.keep K710 (ninS (Ne.symm ne422) (ninS (Ne.symm U393_6) (ninS U393_12 (ninS U393_13 nin0))))
          have Z719 : n0 ≤ h710.size := Nat.le_trans Z709 K710.1
          show Own.Go p e below s n0 _ _ _ (T710.setTop (mkF m 172 _ [.int (1 : Int32)]))
          clear F701 F702 F703 F704 F705 F706 F707 F708 G697_0 G697_1 G697_2 G697_3 G697_4 G697_5 G697_6 G697_7 G697_8 G697_9 X697
          refine Own.pop X710 at_172 rfl ?_
          refine Own.iloadN X710 at_173 rfl ?_
          refine Own.iload X710 at_174 rfl ?_
          refine Own.icmp_ X710 (pc' := 182) at_176 (by decide) (fun q => absurd (show i1.toInt ≤ i3.toInt from q) (show ¬ (i1.toInt ≤ i3.toInt) from by omega)) (fun _ => ?_)
          refine Own.iconst X710 (v := 3) at_179 rfl ?_
          refine Own.istore X710 at_180 (l' := #[.val (.int i0), .val (.int i1), .val (.int i2), .val (.int i3), .val (.int i4), .val (.int (3 : Int32)), .val (.int (Own.bo (¬ ((i4 &&& (4 : Int32)).toInt = (0 : Int))))), .val (.ref sa0), .val (.ref sa1), .val (.ref sa2), .val (.ref sa3), .val (.ref pop), .val (.int (3 : Int32)), .val (.int i1), .unset, .unset]) rfl ?_
          exact tl_03 l Z a0 hw (3 : Int32) (Own.bo (¬ ((i4 &&& (4 : Int32)).toInt = (0 : Int)))) i1 sa0 sa1 sa2 sa3 pl_72_393 x0_72_393 x1_72_393 x2_72_393 k_pl_72_393 c_pl_72_393 (X710.more (by decide) (by decide)) Z719 F712 G710_0 G710_1 F713 G710_2 F714
        · refine Own.aload X697 at_163 rfl rfl ?_
          refine Own.aload X697 at_165 rfl rfl ?_
          refine Own.iloadN X697 at_167 rfl ?_
          obtain ⟨d168, e_d168⟩ : ∃ v, FP.i2d i3 = v := ⟨_, rfl⟩
          obtain ⟨f_d168, z_d168⟩ := Own.i2d_v e_d168
          have n_d168 := f_d168.noNaN
          refine Own.i2d X697 at_168 e_d168 ?_
          refine Own.callV_ (y := mn_11) (z := mn_11) (a := pop) X697 at_169 (Own.wd hw 55 rfl) (Own.wd hw 56 rfl) (Own.wd hw 58 rfl) (Own.wd hw 57 rfl) rfl (Own.wd hw 3 rfl) (Own.wd hw 59 rfl) (by decide) F702 (rm6_0A l Z a0 hw pop sa3 d168 pl_72_393 oa_72_393 na_72_393 x0_72_393 x1_72_393 x2_72_393 k_pl_72_393 c_pl_72_393 k_oa_72_393 k_na_72_393 d82 d97 d112 (0 : Int64) ((0 : Int64) + (1 : Int64)) (((0 : Int64) + (1 : Int64)) + (1 : Int64)) ((((0 : Int64) + (1 : Int64)) + (1 : Int64)) + (1 : Int64)) k_sa3 (3 : Int32) (1 : Int32) (0 : Int32) (1 : Int32) (2 : Int32) h697 n0 Z709 F702 G697_0 G697_1 G697_2 G697_3 G697_4 G697_5 G697_6 F703 F707 F708 G697_7 G697_8 G697_9 F701 ne404 ne428 ne434 ne410 ne416 ne422 U393_3 U393_4 U393_0 U393_1 U393_2 U393_14 (Ne.symm U393_7) (Ne.symm U393_10) (Ne.symm U393_12) (Ne.symm U393_8) (Ne.symm U393_11) (Ne.symm U393_13) U393_5 U393_6 U393_9 ne379 ne403 ne427 ne433 ne409 ne415 ne421 fr380 fr411 fr417 fr423 fr429 fr435 n_d168 n_d82 n_d97 n_d112 (by rw [z_d168, z_d82]; exact Own.U_lt.mpr (by omega)) d97 (by decide) rfl n_d97 (by rw [z_d97, z_d168]; exact Own.U_le.mpr (by omega)) (by decide) (by decide) (by decide)) (lenOf pd_10 rfl) rfl (argsL := [.ref sa3, .double d168]) (rest := []) rfl (W := 0) (Nat.le_of_eq rfl) (by decide) (by decide) (by decide) (by decide) fun T720 h720 v720 X720 q720 => ?_
          obtain ⟨rfl, K720, G720_0, G720_1, G720_2⟩ := q720
          have F721 := F701.keep K720 (ninS ne379 (ninS ne409 (ninS ne427 (ninS ne433 nin0))))
          have F722 := F702.keep K720
          have F723 := F703.keep K720 (ninS (Ne.symm ne404) (ninS U393_0 (ninS U393_3 (ninS U393_4 nin0))))
          have F724 := F704.keep K720
          have F725 := F705.keep K720
          have F726 := F706.keep K720
          have F727 := F708.keep K720 (ninS (Ne.symm ne416) (ninS (Ne.symm U393_5) (ninS U393_10 (ninS U393_11 nin0))))
          have F728 := G697_7.keep K720 (ninS (Ne.symm ne422) (ninS (Ne.symm U393_6) (ninS U393_12 (ninS U393_13 nin0))))
          have Z729 : n0 ≤ h720.size := Nat.le_trans Z709 K720.1
          show Own.Go p e below s n0 _ _ _ (T720.setTop (mkF m 172 _ [.int (0 : Int32)]))
          clear F701 F702 F703 F704 F705 F706 F707 F708 G697_0 G697_1 G697_2 G697_3 G697_4 G697_5 G697_6 G697_7 G697_8 G697_9 X697
          refine Own.pop X720 at_172 rfl ?_
          refine Own.iloadN X720 at_173 rfl ?_
          refine Own.iload X720 at_174 rfl ?_
          refine Own.icmp_ X720 (pc' := 182) at_176 (by decide) (fun _ => ?_) (fun q => absurd (show i1.toInt ≤ i3.toInt from by omega) q)
          exact tl_11 l Z a0 hw (3 : Int32) (Own.bo (¬ ((i4 &&& (4 : Int32)).toInt = (0 : Int)))) i1 sa0 sa1 sa2 sa3 pl_72_393 x0_72_393 x1_72_393 x2_72_393 k_pl_72_393 c_pl_72_393 (X720.more (by decide) (by decide)) Z729 F722 G720_0 G720_1 F723 F727 F725
        · refine Own.aload X697 at_163 rfl rfl ?_
          refine Own.aload X697 at_165 rfl rfl ?_
          refine Own.iloadN X697 at_167 rfl ?_
          obtain ⟨d168, e_d168⟩ : ∃ v, FP.i2d i3 = v := ⟨_, rfl⟩
          obtain ⟨f_d168, z_d168⟩ := Own.i2d_v e_d168
          have n_d168 := f_d168.noNaN
          refine Own.i2d X697 at_168 e_d168 ?_
          refine Own.callV_ (y := mn_11) (z := mn_11) (a := pop) X697 at_169 (Own.wd hw 55 rfl) (Own.wd hw 56 rfl) (Own.wd hw 58 rfl) (Own.wd hw 57 rfl) rfl (Own.wd hw 3 rfl) (Own.wd hw 59 rfl) (by decide) F702 (rm6_0R l Z a0 hw pop sa3 d168 oa_72_393 k_oa_72_393 d82 d97 d112 h697 n0 Z709 G697_1 G697_5 G697_8 n_d168 n_d82 (by rw [z_d82, z_d168]; exact Own.U_le.mpr (by omega))) (lenOf pd_10 rfl) rfl (argsL := [.ref sa3, .double d168]) (rest := []) rfl (W := 0) (Nat.le_of_eq rfl) (by decide) (by decide) (by decide) (by decide) fun T730 h730 v730 X730 q730 => ?_
          obtain ⟨rfl, rfl⟩ := q730
          show Own.Go p e below s n0 _ _ _ (T730.setTop (mkF m 172 _ [.int (0 : Int32)]))
          clear X697
          refine Own.pop X730 at_172 rfl ?_
          refine Own.iloadN X730 at_173 rfl ?_
          refine Own.iload X730 at_174 rfl ?_
          refine Own.icmp_ X730 (pc' := 182) at_176 (by decide) (fun _ => ?_) (fun q => absurd (show i1.toInt ≤ i3.toInt from by omega) q)
          exact tl_11 l Z a0 hw (3 : Int32) (Own.bo (¬ ((i4 &&& (4 : Int32)).toInt = (0 : Int)))) i1 sa0 sa1 sa2 sa3 pl_72_393 x0_72_393 x1_72_393 x2_72_393 k_pl_72_393 c_pl_72_393 (X730.more (by decide) (by decide)) Z709 F702 G697_0 G697_6 F703 F708 F705
    · refine Own.iload X436 at_86 rfl ?_
      refine Own.iconst X436 (v := 1) at_88 rfl ?_
      refine Own.icmp_ X436 (pc' := 101) at_89 (by decide) (fun q => absurd (show (3 : Int) ≤ (1 : Int) from q) (show ¬ ((3 : Int) ≤ (1 : Int)) from by decide)) (fun _ => ?_)
      refine Own.aload X436 at_92 rfl rfl ?_
      refine Own.aload X436 at_94 rfl rfl ?_
      refine Own.iloadN X436 at_96 rfl ?_
      obtain ⟨d97, e_d97⟩ : ∃ v, FP.i2d i1 = v := ⟨_, rfl⟩
      obtain ⟨f_d97, z_d97⟩ := Own.i2d_v e_d97
      have n_d97 := f_d97.noNaN
      refine Own.i2d X436 at_97 e_d97 ?_
      refine Own.callV_ (y := mn_3) (z := mn_3) (a := pop) X436 at_98 (Own.wd hw 20 rfl) (Own.wd hw 21 rfl) (Own.wd hw 23 rfl) (Own.wd hw 22 rfl) rfl (Own.wd hw 3 rfl) (Own.wd hw 24 rfl) (by decide) F441 (rm3_10000 l Z a0 hw pop sa1 d97 pl_72_393 oa_72_393 na_72_393 x0_72_393 x1_72_393 x2_72_393 k_pl_72_393 c_pl_72_393 k_oa_72_393 k_na_72_393 d82 0 0 (0 : Int64) (0 : Int64) (0 : Int64) ((0 : Int64) + (1 : Int64)) k_sa1 (1 : Int32) (0 : Int32) h436 n0 Z448 F441 G436_0 G436_1 G436_2 G436_3 G436_4 G436_5 G436_6 F442 F443 G436_8 G436_9 F438 ne404 ne428 ne434 ne410 ne416 ne422 U393_3 U393_4 U393_0 U393_1 U393_2 U393_14 (Ne.symm U393_7) (Ne.symm U393_10) (Ne.symm U393_12) (Ne.symm U393_8) (Ne.symm U393_11) (Ne.symm U393_13) U393_5 U393_6 U393_9 ne377 ne401 ne425 ne431 ne407 ne413 ne419 fr380 fr411 fr417 fr423 fr429 fr435 n_d97 n_d82 (by rw [z_d97, z_d82]; exact Own.U_le.mpr (by omega)) (by rw [z_d82, z_d97]; exact Own.U_le.mpr (by omega))) (lenOf pd_13 rfl) rfl (argsL := [.ref sa1, .double d97]) (rest := []) rfl (W := 0) (Nat.le_of_eq rfl) (by decide) (by decide) (by decide) (by decide) fun T731 h731 v731 X731 q731 => ?_
      obtain ⟨rfl, K731, G731_0, G731_1, G731_2, G731_3, G731_4, G731_5, G731_6, G731_7, G731_8, G731_9⟩ := q731
      have F732 := F437.keep K731 (ninS ne376 (ninS ne412 (ninS ne424 (ninS ne430 nin0))))
      have F733 := F438.keep K731 (ninS ne377 (ninS ne413 (ninS ne425 (ninS ne431 nin0))))
      have F734 := F439.keep K731 (ninS ne378 (ninS ne414 (ninS ne426 (ninS ne432 nin0))))
      have F735 := F440.keep K731 (ninS ne379 (ninS ne415 (ninS ne427 (ninS ne433 nin0))))
      have F736 := F441.keep K731
      have F737 := F442.keep K731 (ninS (Ne.symm ne404) (ninS U393_1 (ninS U393_3 (ninS U393_4 nin0))))
      have F738 := F444.keep K731 (ninS (Ne.symm ne422) (ninS (Ne.symm U393_9) (ninS U393_12 (ninS U393_13 nin0))))
      have F739 := F445.keep K731
      have F740 := F446.keep K731
      have F741 := F447.keep K731
      have F742 := G436_7.keep K731 (ninS (Ne.symm ne410) (ninS U393_5 (ninS U393_7 (ninS U393_8 nin0))))
      have Z743 : n0 ≤ h731.size := Nat.le_trans Z448 K731.1
      show Own.Go p e below s n0 _ _ _ (T731.setTop (mkF m 101 _ []))
      clear F437 F438 F439 F440 F441 F442 F443 F444 F445 F446 F447 G436_0 G436_1 G436_2 G436_3 G436_4 G436_5 G436_6 G436_7 G436_8 G436_9 X436
      refine Own.iload X731 at_101 rfl ?_
      refine Own.iconst X731 (v := 2) at_103 rfl ?_
      refine Own.icmp_ X731 (pc' := 116) at_104 (by decide) (fun q => absurd (show (3 : Int) ≤ (2 : Int) from q) (show ¬ ((3 : Int) ≤ (2 : Int)) from by decide)) (fun _ => ?_)
      refine Own.aload X731 at_107 rfl rfl ?_
      refine Own.aload X731 at_109 rfl rfl ?_
      refine Own.iloadN X731 at_111 rfl ?_
      obtain ⟨d112, e_d112⟩ : ∃ v, FP.i2d i2 = v := ⟨_, rfl⟩
      obtain ⟨f_d112, z_d112⟩ := Own.i2d_v e_d112
      have n_d112 := f_d112.noNaN
      refine Own.i2d X731 at_112 e_d112 ?_
      refine Own.callV_ (y := mn_3) (z := mn_3) (a := pop) X731 at_113 (Own.wd hw 20 rfl) (Own.wd hw 21 rfl) (Own.wd hw 23 rfl) (Own.wd hw 22 rfl) rfl (Own.wd hw 3 rfl) (Own.wd hw 24 rfl) (by decide) F736 (rm3_20020 l Z a0 hw pop sa2 d112 pl_72_393 oa_72_393 na_72_393 x0_72_393 x1_72_393 x2_72_393 k_pl_72_393 c_pl_72_393 k_oa_72_393 k_na_72_393 d82 d97 0 (0 : Int64) ((0 : Int64) + (1 : Int64)) (0 : Int64) (((0 : Int64) + (1 : Int64)) + (1 : Int64)) k_sa2 (2 : Int32) (0 : Int32) h731 n0 Z743 F736 G731_0 G731_1 G731_2 G731_3 G731_4 G731_5 G731_6 F737 F738 G731_8 G731_9 F734 ne404 ne428 ne434 ne410 ne416 ne422 U393_3 U393_4 U393_0 U393_1 U393_2 U393_14 (Ne.symm U393_7) (Ne.symm U393_10) (Ne.symm U393_12) (Ne.symm U393_8) (Ne.symm U393_11) (Ne.symm U393_13) U393_5 U393_6 U393_9 ne378 ne402 ne426 ne432 ne408 ne414 ne420 fr380 fr411 fr417 fr423 fr429 fr435 n_d112 n_d82 (by rw [z_d82, z_d112]; exact Own.U_lt.mpr (by omega)) (by rw [z_d82, z_d112]; exact Own.U_le.mpr (by omega))) (lenOf pd_13 rfl) rfl (argsL := [.ref sa2, .double d112]) (rest := []) rfl (W := 0) (Nat.le_of_eq rfl) (by decide) (by decide) (by decide) (by decide) fun T744 h744 v744 X744 q744 => ?_
      obtain ⟨rfl, K744, G744_0, G744_1, G744_2, G744_3, G744_4, G744_5, G744_6, G744_7, G744_8, G744_9⟩ := q744
      have F745 := F732.keep K744 (ninS ne376 (ninS ne418 (ninS ne424 (ninS ne430 nin0))))
      have F746 := F733.keep K744 (ninS ne377 (ninS ne419 (ninS ne425 (ninS ne431 nin0))))
      have F747 := F734.keep K744 (ninS ne378 (ninS ne420 (ninS ne426 (ninS ne432 nin0))))
      have F748 := F735.keep K744 (ninS ne379 (ninS ne421 (ninS ne427 (ninS ne433 nin0))))
      have F749 := F736.keep K744
      have F750 := F737.keep K744 (ninS (Ne.symm ne404) (ninS U393_2 (ninS U393_3 (ninS U393_4 nin0))))
      have F751 := F739.keep K744
      have F752 := F740.keep K744
      have F753 := F741.keep K744
      have F754 := F742.keep K744 (ninS (Ne.symm ne410) (ninS U393_6 (ninS U393_7 (ninS U393_8 nin0))))
      have F755 := G731_7.keep K744 (ninS (Ne.symm ne416) (ninS U393_9 (ninS U393_10 (ninS U393_11 nin0))))
      have Z756 : n0 ≤ h744.size := Nat.le_trans Z743 K744.1
      show Own.Go p e below s n0 _ _ _ (T744.setTop (mkF m 116 _ []))
      clear F732 F733 F734 F735 F736 F737 F738 F739 F740 F741 F742 G731_0 G731_1 G731_2 G731_3 G731_4 G731_5 G731_6 G731_7 G731_8 G731_9 X731
      refine Own.iconst X744 (v := 0) at_116 rfl ?_
      refine Own.istore X744 at_117 (l' := #[.val (.int i0), .val (.int i1), .val (.int i2), .val (.int i3), .val (.int i4), .val (.int (3 : Int32)), .val (.int (Own.bo (¬ ((i4 &&& (4 : Int32)).toInt = (0 : Int))))), .val (.ref sa0), .val (.ref sa1), .val (.ref sa2), .val (.ref sa3), .val (.ref pop), .val (.int (0 : Int32)), .unset, .unset, .unset]) rfl ?_
      refine Own.iloadN X744 at_119 rfl ?_
      refine Own.istore X744 at_120 (l' := #[.val (.int i0), .val (.int i1), .val (.int i2), .val (.int i3), .val (.int i4), .val (.int (3 : Int32)), .val (.int (Own.bo (¬ ((i4 &&& (4 : Int32)).toInt = (0 : Int))))), .val (.ref sa0), .val (.ref sa1), .val (.ref sa2), .val (.ref sa3), .val (.ref pop), .val (.int (0 : Int32)), .val (.int i0), .unset, .unset]) rfl ?_
      refine Own.iload X744 at_122 rfl ?_
      refine Own.iconst X744 (v := 1) at_124 rfl ?_
      refine Own.icmp_ X744 (pc' := 140) at_125 (by decide) (fun q => absurd (show (3 : Int) ≤ (1 : Int) from q) (show ¬ ((3 : Int) ≤ (1 : Int)) from by decide)) (fun _ => ?_)
      refine Own.iloadN X744 at_128 rfl ?_
      refine Own.iload X744 at_129 rfl ?_
      refine Own.icmp_ X744 (pc' := 140) at_131 (by decide) (fun _ => ?_) (fun q => absurd (show i0.toInt ≤ i1.toInt from by omega) q)
      refine Own.iload X744 at_140 rfl ?_
      refine Own.iconst X744 (v := 2) at_142 rfl ?_
      refine Own.icmp_ X744 (pc' := 158) at_143 (by decide) (fun q => absurd (show (3 : Int) ≤ (2 : Int) from q) (show ¬ ((3 : Int) ≤ (2 : Int)) from by decide)) (fun _ => ?_)
      refine Own.iloadN X744 at_146 rfl ?_
      refine Own.iload X744 at_147 rfl ?_
      refine Own.icmp_ X744 (pc' := 158) at_149 (by decide) (fun _ => ?_) (fun q => absurd (show i0.toInt ≤ i2.toInt from by omega) q)
      refine Own.iload X744 at_158 rfl ?_
      refine Own.ifeqB X744 (pc' := 182) at_160 (by decide) (fun (h160 : ¬ (¬ ((i4 &&& (4 : Int32)).toInt = (0 : Int)))) => ?_) (fun (h160 : ¬ ((i4 &&& (4 : Int32)).toInt = (0 : Int))) => ?_)
      · exact tl_00 l Z a0 hw (3 : Int32) (Own.bo (¬ ((i4 &&& (4 : Int32)).toInt = (0 : Int)))) i0 sa0 sa1 sa2 sa3 pl_72_393 x0_72_393 x1_72_393 x2_72_393 k_pl_72_393 c_pl_72_393 (X744.more (by decide) (by decide)) Z756 F749 G744_0 G744_6 F750 F754 F751
      · rcases own_off i3 i2 i0 with oo | oo | oo
        · refine Own.aload X744 at_163 rfl rfl ?_
          refine Own.aload X744 at_165 rfl rfl ?_
          refine Own.iloadN X744 at_167 rfl ?_
          obtain ⟨d168, e_d168⟩ : ∃ v, FP.i2d i3 = v := ⟨_, rfl⟩
          obtain ⟨f_d168, z_d168⟩ := Own.i2d_v e_d168
          have n_d168 := f_d168.noNaN
          refine Own.i2d X744 at_168 e_d168 ?_
          refine Own.callV_ (y := mn_11) (z := mn_11) (a := pop) X744 at_169 (Own.wd hw 55 rfl) (Own.wd hw 56 rfl) (Own.wd hw 58 rfl) (Own.wd hw 57 rfl) rfl (Own.wd hw 3 rfl) (Own.wd hw 59 rfl) (by decide) F749 (rm6_2N l Z a0 hw pop sa3 d168 pl_72_393 oa_72_393 na_72_393 x0_72_393 x1_72_393 x2_72_393 k_pl_72_393 c_pl_72_393 k_oa_72_393 k_na_72_393 d82 d97 d112 (0 : Int64) ((0 : Int64) + (1 : Int64)) (((0 : Int64) + (1 : Int64)) + (1 : Int64)) ((((0 : Int64) + (1 : Int64)) + (1 : Int64)) + (1 : Int64)) k_sa3 (3 : Int32) (0 : Int32) (0 : Int32) (1 : Int32) (2 : Int32) h744 n0 Z756 F749 G744_0 G744_1 G744_2 G744_3 G744_4 G744_5 G744_6 F750 F754 F755 G744_7 G744_8 G744_9 F748 ne404 ne428 ne434 ne410 ne416 ne422 U393_3 U393_4 U393_0 U393_1 U393_2 U393_14 (Ne.symm U393_7) (Ne.symm U393_10) (Ne.symm U393_12) (Ne.symm U393_8) (Ne.symm U393_11) (Ne.symm U393_13) U393_5 U393_6 U393_9 ne379 ne403 ne427 ne433 ne409 ne415 ne421 fr380 fr411 fr417 fr423 fr429 fr435 n_d168 n_d82 n_d97 n_d112 (by rw [z_d168, z_d112]; exact Own.U_lt.mpr (by omega)) d82 (by decide) rfl n_d82 (by rw [z_d168, z_d82]; exact Own.U_lt.mpr (by omega)) (by decide) (by decide) (by decide)) (lenOf pd_10 rfl) rfl (argsL := [.ref sa3, .double d168]) (rest := []) rfl (W := 0) (Nat.le_of_eq rfl) (by decide) (by decide) (by decide) (by decide) fun T757 h757 v757 X757 q757 => ?_
          obtain ⟨rfl, K757, G757_0, G757_1, G757_2⟩ := q757
          have F758 := F748.keep K757 (ninS ne379 (ninS ne421 (ninS ne427 (ninS ne433 nin0))))
          have F759 := F749.keep K757
          have F760 := F750.keep K757 (ninS (Ne.symm ne404) (ninS U393_2 (ninS U393_3 (ninS U393_4 nin0))))
          have F761 := F751.keep K757
          have F762 := F752.keep K757
          have F763 := F753.keep K757
          have F764 := F754.keep K757 (ninS (Ne.symm ne410) (ninS U393_6 (ninS U393_7 (ninS U393_8 nin0))))
          have F765 := F755.keep K757 (ninS (Ne.symm ne416) (ninS U393_9 (ninS U393_10 (ninS U393_11 nin0))))
          have Z766 : n0 ≤ h757.size := Nat.le_trans Z756 K757.1
          show Own.Go p e below s n0 _ _ _ (T757.setTop (mkF m 172 _ [.int (1 : Int32)]))
          clear F748 F749 F750 F751 F752 F753 F754 F755 G744_0 G744_1 G744_2 G744_3 G744_4 G744_5 G744_6 G744_7 G744_8 G744_9 X744
          refine Own.pop X757 at_172 rfl ?_
          refine Own.iloadN X757 at_173 rfl ?_
          refine Own.iload X757 at_174 rfl ?_
          refine Own.icmp_ X757 (pc' := 182) at_176 (by decide) (fun q => absurd (show i0.toInt ≤ i3.toInt from q) (show ¬ (i0.toInt ≤ i3.toInt) from by omega)) (fun _ => ?_)
          refine Own.iconst X757 (v := 3) at_179 rfl ?_
          refine Own.istore X757 at_180 (l' := #[.val (.int i0), .val (.int i1), .val (.int i2), .val (.int i3), .val (.int i4), .val (.int (3 : Int32)), .val (.int (Own.bo (¬ ((i4 &&& (4 : Int32)).toInt = (0 : Int))))), .val (.ref sa0), .val (.ref sa1), .val (.ref sa2), .val (.ref sa3), .val (.ref pop), .val (.int (3 : Int32)), .val (.int i0), .unset, .unset]) rfl ?_
          exact tl_23 l Z a0 hw (3 : Int32) (Own.bo (¬ ((i4 &&& (4 : Int32)).toInt = (0 : Int)))) i0 sa0 sa1 sa2 sa3 pl_72_393 x0_72_393 x1_72_393 x2_72_393 k_pl_72_393 c_pl_72_393 (X757.more (by decide) (by decide)) Z766 F759 G757_0 G757_1 F760 G757_2 F763
        · refine Own.aload X744 at_163 rfl rfl ?_
          refine Own.aload X744 at_165 rfl rfl ?_
          refine Own.iloadN X744 at_167 rfl ?_
          obtain ⟨d168, e_d168⟩ : ∃ v, FP.i2d i3 = v := ⟨_, rfl⟩
          obtain ⟨f_d168, z_d168⟩ := Own.i2d_v e_d168
          have n_d168 := f_d168.noNaN
          refine Own.i2d X744 at_168 e_d168 ?_
          refine Own.callV_ (y := mn_11) (z := mn_11) (a := pop) X744 at_169 (Own.wd hw 55 rfl) (Own.wd hw 56 rfl) (Own.wd hw 58 rfl) (Own.wd hw 57 rfl) rfl (Own.wd hw 3 rfl) (Own.wd hw 59 rfl) (by decide) F749 (rm6_2A l Z a0 hw pop sa3 d168 pl_72_393 oa_72_393 na_72_393 x0_72_393 x1_72_393 x2_72_393 k_pl_72_393 c_pl_72_393 k_oa_72_393 k_na_72_393 d82 d97 d112 (0 : Int64) ((0 : Int64) + (1 : Int64)) (((0 : Int64) + (1 : Int64)) + (1 : Int64)) ((((0 : Int64) + (1 : Int64)) + (1 : Int64)) + (1 : Int64)) k_sa3 (3 : Int32) (0 : Int32) (0 : Int32) (1 : Int32) (2 : Int32) h744 n0 Z756 F749 G744_0 G744_1 G744_2 G744_3 G744_4 G744_5 G744_6 F750 F754 F755 G744_7 G744_8 G744_9 F748 ne404 ne428 ne434 ne410 ne416 ne422 U393_3 U393_4 U393_0 U393_1 U393_2 U393_14 (Ne.symm U393_7) (Ne.symm U393_10) (Ne.symm U393_12) (Ne.symm U393_8) (Ne.symm U393_11) (Ne.symm U393_13) U393_5 U393_6 U393_9 ne379 ne403 ne427 ne433 ne409 ne415 ne421 fr380 fr411 fr417 fr423 fr429 fr435 n_d168 n_d82 n_d97 n_d112 (by rw [z_d168, z_d112]; exact Own.U_lt.mpr (by omega)) d82 (by decide) rfl n_d82 (by rw [z_d82, z_d168]; exact Own.U_le.mpr (by omega)) (by decide) (by decide) (by decide)) (lenOf pd_10 rfl) rfl (argsL := [.ref sa3, .double d168]) (rest := []) rfl (W := 0) (Nat.le_of_eq rfl) (by decide) (by decide) (by decide) (by decide) fun T767 h767 v767 X767 q767 => ?_
          obtain ⟨rfl, K767, G767_0, G767_1, G767_2⟩ := q767
          have F768 := F748.keep K767 (ninS ne379 (ninS ne421 (ninS ne427 (ninS ne433 nin0))))
          have F769 := F749.keep K767
          have F770 := F750.keep K767 (ninS (Ne.symm ne404) (ninS U393_2 (ninS U393_3 (ninS U393_4 nin0))))
          have F771 := F751.keep K767
          have F772 := F752.keep K767
          have F773 := F753.keep K767
          have F774 := F754.keep K767 (ninS (Ne.symm ne410) (ninS U393_6 (ninS U393_7 (ninS U393_8 nin0))))
          have F775 := F755.keep K767 (ninS (Ne.symm ne416) (ninS U393_9 (ninS U393_10 (ninS U393_11 nin0))))
          have Z776 : n0 ≤ h767.size := Nat.le_trans Z756 K767.1
          show Own.Go p e below s n0 _ _ _ (T767.setTop (mkF m 172 _ [.int (0 : Int32)]))
          clear F748 F749 F750 F751 F752 F753 F754 F755 G744_0 G744_1 G744_2 G744_3 G744_4 G744_5 G744_6 G744_7 G744_8 G744_9 X744
          refine Own.pop X767 at_172 rfl ?_
          refine Own.iloadN X767 at_173 rfl ?_
          refine Own.iload X767 at_174 rfl ?_
          refine Own.icmp_ X767 (pc' := 182) at_176 (by decide) (fun _ => ?_) (fun q => absurd (show i0.toInt ≤ i3.toInt from by omega) q)
          exact tl_00 l Z a0 hw (3 : Int32) (Own.bo (¬ ((i4 &&& (4 : Int32)).toInt = (0 : Int)))) i0 sa0 sa1 sa2 sa3 pl_72_393 x0_72_393 x1_72_393 x2_72_393 k_pl_72_393 c_pl_72_393 (X767.more (by decide) (by decide)) Z776 F769 G767_0 G767_1 F770 F774 F771
        · refine Own.aload X744 at_163 rfl rfl ?_
          refine Own.aload X744 at_165 rfl rfl ?_
          refine Own.iloadN X744 at_167 rfl ?_
          obtain ⟨d168, e_d168⟩ : ∃ v, FP.i2d i3 = v := ⟨_, rfl⟩
          obtain ⟨f_d168, z_d168⟩ := Own.i2d_v e_d168
          have n_d168 := f_d168.noNaN
          refine Own.i2d X744 at_168 e_d168 ?_
          refine Own.callV_ (y := mn_11) (z := mn_11) (a := pop) X744 at_169 (Own.wd hw 55 rfl) (Own.wd hw 56 rfl) (Own.wd hw 58 rfl) (Own.wd hw 57 rfl) rfl (Own.wd hw 3 rfl) (Own.wd hw 59 rfl) (by decide) F749 (rm6_2R l Z a0 hw pop sa3 d168 oa_72_393 k_oa_72_393 d82 d97 d112 h744 n0 Z756 G744_1 G744_5 G744_8 n_d168 n_d112 (by rw [z_d112, z_d168]; exact Own.U_le.mpr (by omega))) (lenOf pd_10 rfl) rfl (argsL := [.ref sa3, .double d168]) (rest := []) rfl (W := 0) (Nat.le_of_eq rfl) (by decide) (by decide) (by decide) (by decide) fun T777 h777 v777 X777 q777 => ?_
          obtain ⟨rfl, rfl⟩ := q777
          show Own.Go p e below s n0 _ _ _ (T777.setTop (mkF m 172 _ [.int (0 : Int32)]))
          clear X744
          refine Own.pop X777 at_172 rfl ?_
          refine Own.iloadN X777 at_173 rfl ?_
          refine Own.iload X777 at_174 rfl ?_
          refine Own.icmp_ X777 (pc' := 182) at_176 (by decide) (fun _ => ?_) (fun q => absurd (show i0.toInt ≤ i3.toInt from by omega) q)
          exact tl_00 l Z a0 hw (3 : Int32) (Own.bo (¬ ((i4 &&& (4 : Int32)).toInt = (0 : Int)))) i0 sa0 sa1 sa2 sa3 pl_72_393 x0_72_393 x1_72_393 x2_72_393 k_pl_72_393 c_pl_72_393 (X777.more (by decide) (by decide)) Z756 F749 G744_0 G744_6 F750 F754 F751
    · refine Own.iload X436 at_86 rfl ?_
      refine Own.iconst X436 (v := 1) at_88 rfl ?_
      refine Own.icmp_ X436 (pc' := 101) at_89 (by decide) (fun q => absurd (show (3 : Int) ≤ (1 : Int) from q) (show ¬ ((3 : Int) ≤ (1 : Int)) from by decide)) (fun _ => ?_)
      refine Own.aload X436 at_92 rfl rfl ?_
      refine Own.aload X436 at_94 rfl rfl ?_
      refine Own.iloadN X436 at_96 rfl ?_
      obtain ⟨d97, e_d97⟩ : ∃ v, FP.i2d i1 = v := ⟨_, rfl⟩
      obtain ⟨f_d97, z_d97⟩ := Own.i2d_v e_d97
      have n_d97 := f_d97.noNaN
      refine Own.i2d X436 at_97 e_d97 ?_
      refine Own.callV_ (y := mn_3) (z := mn_3) (a := pop) X436 at_98 (Own.wd hw 20 rfl) (Own.wd hw 21 rfl) (Own.wd hw 23 rfl) (Own.wd hw 22 rfl) rfl (Own.wd hw 3 rfl) (Own.wd hw 24 rfl) (by decide) F441 (rm3_10000 l Z a0 hw pop sa1 d97 pl_72_393 oa_72_393 na_72_393 x0_72_393 x1_72_393 x2_72_393 k_pl_72_393 c_pl_72_393 k_oa_72_393 k_na_72_393 d82 0 0 (0 : Int64) (0 : Int64) (0 : Int64) ((0 : Int64) + (1 : Int64)) k_sa1 (1 : Int32) (0 : Int32) h436 n0 Z448 F441 G436_0 G436_1 G436_2 G436_3 G436_4 G436_5 G436_6 F442 F443 G436_8 G436_9 F438 ne404 ne428 ne434 ne410 ne416 ne422 U393_3 U393_4 U393_0 U393_1 U393_2 U393_14 (Ne.symm U393_7) (Ne.symm U393_10) (Ne.symm U393_12) (Ne.symm U393_8) (Ne.symm U393_11) (Ne.symm U393_13) U393_5 U393_6 U393_9 ne377 ne401 ne425 ne431 ne407 ne413 ne419 fr380 fr411 fr417 fr423 fr429 fr435 n_d97 n_d82 (by rw [z_d97, z_d82]; exact Own.U_le.mpr (by omega)) (by rw [z_d82, z_d97]; exact Own.U_le.mpr (by omega))) (lenOf pd_13 rfl) rfl (argsL := [.ref sa1, .double d97]) (rest := []) rfl (W := 0) (Nat.le_of_eq rfl) (by decide) (by decide) (by decide) (by decide) fun T778 h778 v778 X778 q778 => ?_
      obtain ⟨rfl, K778, G778_0, G778_1, G778_2, G778_3, G778_4, G778_5, G778_6, G778_7, G778_8, G778_9⟩ := q778
      have F779 := F437.keep K778 (ninS ne376 (ninS ne412 (ninS ne424 (ninS ne430 nin0))))
      have F780 := F438.keep K778 (ninS ne377 (ninS ne413 (ninS ne425 (ninS ne431 nin0))))
      have F781 := F439.keep K778 (ninS ne378 (ninS ne414 (ninS ne426 (ninS ne432 nin0))))
      have F782 := F440.keep K778 (ninS ne379 (ninS ne415 (ninS ne427 (ninS ne433 nin0))))
      have F783 := F441.keep K778
      have F784 := F442.keep K778 (ninS (Ne.symm ne404) (ninS U393_1 (ninS U393_3 (ninS U393_4 nin0))))
      have F785 := F444.keep K778 (ninS (Ne.symm ne422) (ninS (Ne.symm U393_9) (ninS U393_12 (ninS U393_13 nin0))))
      have F786 := F445.keep K778
      have F787 := F446.keep K778
      have F788 := F447.keep K778
      have F789 := G436_7.keep K778 (ninS (Ne.symm ne410) (ninS U393_5 (ninS U393_7 (ninS U393_8 nin0))))
      have Z790 : n0 ≤ h778.size := Nat.le_trans Z448 K778.1
      show Own.Go p e below s n0 _ _ _ (T778.setTop (mkF m 101 _ []))
      clear F437 F438 F439 F440 F441 F442 F443 F444 F445 F446 F447 G436_0 G436_1 G436_2 G436_3 G436_4 G436_5 G436_6 G436_7 G436_8 G436_9 X436
      refine Own.iload X778 at_101 rfl ?_
      refine Own.iconst X778 (v := 2) at_103 rfl ?_
      refine Own.icmp_ X778 (pc' := 116) at_104 (by decide) (fun q => absurd (show (3 : Int) ≤ (2 : Int) from q) (show ¬ ((3 : Int) ≤ (2 : Int)) from by decide)) (fun _ => ?_)
      refine Own.aload X778 at_107 rfl rfl ?_
      refine Own.aload X778 at_109 rfl rfl ?_
      refine Own.iloadN X778 at_111 rfl ?_
      obtain ⟨d112, e_d112⟩ : ∃ v, FP.i2d i2 = v := ⟨_, rfl⟩
      obtain ⟨f_d112, z_d112⟩ := Own.i2d_v e_d112
      have n_d112 := f_d112.noNaN
      refine Own.i2d X778 at_112 e_d112 ?_
      refine Own.callV_ (y := mn_3) (z := mn_3) (a := pop) X778 at_113 (Own.wd hw 20 rfl) (Own.wd hw 21 rfl) (Own.wd hw 23 rfl) (Own.wd hw 22 rfl) rfl (Own.wd hw 3 rfl) (Own.wd hw 24 rfl) (by decide) F783 (rm3_20002 l Z a0 hw pop sa2 d112 pl_72_393 oa_72_393 na_72_393 x0_72_393 x1_72_393 x2_72_393 k_pl_72_393 c_pl_72_393 k_oa_72_393 k_na_72_393 d82 d97 0 (0 : Int64) ((0 : Int64) + (1 : Int64)) (0 : Int64) (((0 : Int64) + (1 : Int64)) + (1 : Int64)) k_sa2 (2 : Int32) (0 : Int32) h778 n0 Z790 F783 G778_0 G778_1 G778_2 G778_3 G778_4 G778_5 G778_6 F784 F785 G778_8 G778_9 F781 ne404 ne428 ne434 ne410 ne416 ne422 U393_3 U393_4 U393_0 U393_1 U393_2 U393_14 (Ne.symm U393_7) (Ne.symm U393_10) (Ne.symm U393_12) (Ne.symm U393_8) (Ne.symm U393_11) (Ne.symm U393_13) U393_5 U393_6 U393_9 ne378 ne402 ne426 ne432 ne408 ne414 ne420 fr380 fr411 fr417 fr423 fr429 fr435 n_d112 n_d82 (by rw [z_d112, z_d82]; exact Own.U_le.mpr (by omega)) (by rw [z_d112, z_d82]; exact Own.U_lt.mpr (by omega))) (lenOf pd_13 rfl) rfl (argsL := [.ref sa2, .double d112]) (rest := []) rfl (W := 0) (Nat.le_of_eq rfl) (by decide) (by decide) (by decide) (by decide) fun T791 h791 v791 X791 q791 => ?_
      obtain ⟨rfl, K791, G791_0, G791_1, G791_2, G791_3, G791_4, G791_5, G791_6, G791_7, G791_8, G791_9⟩ := q791
      have F792 := F779.keep K791 (ninS ne376 (ninS ne418 (ninS ne424 (ninS ne430 nin0))))
      have F793 := F780.keep K791 (ninS ne377 (ninS ne419 (ninS ne425 (ninS ne431 nin0))))
      have F794 := F781.keep K791 (ninS ne378 (ninS ne420 (ninS ne426 (ninS ne432 nin0))))
      have F795 := F782.keep K791 (ninS ne379 (ninS ne421 (ninS ne427 (ninS ne433 nin0))))
      have F796 := F783.keep K791
      have F797 := F784.keep K791 (ninS (Ne.symm ne404) (ninS U393_2 (ninS U393_3 (ninS U393_4 nin0))))
      have F798 := F786.keep K791
      have F799 := F787.keep K791
      have F800 := F788.keep K791
      have F801 := F789.keep K791 (ninS (Ne.symm ne410) (ninS U393_6 (ninS U393_7 (ninS U393_8 nin0))))
      have F802 := G778_7.keep K791 (ninS (Ne.symm ne416) (ninS U393_9 (ninS U393_10 (ninS U393_11 nin0))))
      have Z803 : n0 ≤ h791.size := Nat.le_trans Z790 K791.1
      show Own.Go p e below s n0 _ _ _ (T791.setTop (mkF m 116 _ []))
      clear F779 F780 F781 F782 F783 F784 F785 F786 F787 F788 F789 G778_0 G778_1 G778_2 G778_3 G778_4 G778_5 G778_6 G778_7 G778_8 G778_9 X778
      refine Own.iconst X791 (v := 0) at_116 rfl ?_
      refine Own.istore X791 at_117 (l' := #[.val (.int i0), .val (.int i1), .val (.int i2), .val (.int i3), .val (.int i4), .val (.int (3 : Int32)), .val (.int (Own.bo (¬ ((i4 &&& (4 : Int32)).toInt = (0 : Int))))), .val (.ref sa0), .val (.ref sa1), .val (.ref sa2), .val (.ref sa3), .val (.ref pop), .val (.int (0 : Int32)), .unset, .unset, .unset]) rfl ?_
      refine Own.iloadN X791 at_119 rfl ?_
      refine Own.istore X791 at_120 (l' := #[.val (.int i0), .val (.int i1), .val (.int i2), .val (.int i3), .val (.int i4), .val (.int (3 : Int32)), .val (.int (Own.bo (¬ ((i4 &&& (4 : Int32)).toInt = (0 : Int))))), .val (.ref sa0), .val (.ref sa1), .val (.ref sa2), .val (.ref sa3), .val (.ref pop), .val (.int (0 : Int32)), .val (.int i0), .unset, .unset]) rfl ?_
      refine Own.iload X791 at_122 rfl ?_
      refine Own.iconst X791 (v := 1) at_124 rfl ?_
      refine Own.icmp_ X791 (pc' := 140) at_125 (by decide) (fun q => absurd (show (3 : Int) ≤ (1 : Int) from q) (show ¬ ((3 : Int) ≤ (1 : Int)) from by decide)) (fun _ => ?_)
      refine Own.iloadN X791 at_128 rfl ?_
      refine Own.iload X791 at_129 rfl ?_
      refine Own.icmp_ X791 (pc' := 140) at_131 (by decide) (fun _ => ?_) (fun q => absurd (show i0.toInt ≤ i1.toInt from by omega) q)
      refine Own.iload X791 at_140 rfl ?_
      refine Own.iconst X791 (v := 2) at_142 rfl ?_
      refine Own.icmp_ X791 (pc' := 158) at_143 (by decide) (fun q => absurd (show (3 : Int) ≤ (2 : Int) from q) (show ¬ ((3 : Int) ≤ (2 : Int)) from by decide)) (fun _ => ?_)
      refine Own.iloadN X791 at_146 rfl ?_
      refine Own.iload X791 at_147 rfl ?_
      refine Own.icmp_ X791 (pc' := 158) at_149 (by decide) (fun q => absurd (show i0.toInt ≤ i2.toInt from q) (show ¬ (i0.toInt ≤ i2.toInt) from by omega)) (fun _ => ?_)
      refine Own.iconst X791 (v := 2) at_152 rfl ?_
      refine Own.istore X791 at_153 (l' := #[.val (.int i0), .val (.int i1), .val (.int i2), .val (.int i3), .val (.int i4), .val (.int (3 : Int32)), .val (.int (Own.bo (¬ ((i4 &&& (4 : Int32)).toInt = (0 : Int))))), .val (.ref sa0), .val (.ref sa1), .val (.ref sa2), .val (.ref sa3), .val (.ref pop), .val (.int (2 : Int32)), .val (.int i0), .unset, .unset]) rfl ?_
      refine Own.iloadN X791 at_155 rfl ?_
      refine Own.istore X791 at_156 (l' := #[.val (.int i0), .val (.int i1), .val (.int i2), .val (.int i3), .val (.int i4), .val (.int (3 : Int32)), .val (.int (Own.bo (¬ ((i4 &&& (4 : Int32)).toInt = (0 : Int))))), .val (.ref sa0), .val (.ref sa1), .val (.ref sa2), .val (.ref sa3), .val (.ref pop), .val (.int (2 : Int32)), .val (.int i2), .unset, .unset]) rfl ?_
      refine Own.iload X791 at_158 rfl ?_
      refine Own.ifeqB X791 (pc' := 182) at_160 (by decide) (fun (h160 : ¬ (¬ ((i4 &&& (4 : Int32)).toInt = (0 : Int)))) => ?_) (fun (h160 : ¬ ((i4 &&& (4 : Int32)).toInt = (0 : Int))) => ?_)
      · exact tl_22 l Z a0 hw (3 : Int32) (Own.bo (¬ ((i4 &&& (4 : Int32)).toInt = (0 : Int)))) i2 sa0 sa1 sa2 sa3 pl_72_393 x0_72_393 x1_72_393 x2_72_393 k_pl_72_393 c_pl_72_393 (X791.more (by decide) (by decide)) Z803 F796 G791_0 G791_6 F797 G791_7 F800
      · rcases own_off i3 i0 i2 with oo | oo | oo
        · refine Own.aload X791 at_163 rfl rfl ?_
          refine Own.aload X791 at_165 rfl rfl ?_
          refine Own.iloadN X791 at_167 rfl ?_
          obtain ⟨d168, e_d168⟩ : ∃ v, FP.i2d i3 = v := ⟨_, rfl⟩
          obtain ⟨f_d168, z_d168⟩ := Own.i2d_v e_d168
          have n_d168 := f_d168.noNaN
          refine Own.i2d X791 at_168 e_d168 ?_
          refine Own.callV_ (y := mn_11) (z := mn_11) (a := pop) X791 at_169 (Own.wd hw 55 rfl) (Own.wd hw 56 rfl) (Own.wd hw 58 rfl) (Own.wd hw 57 rfl) rfl (Own.wd hw 3 rfl) (Own.wd hw 59 rfl) (by decide) F796 (rm6_0N l Z a0 hw pop sa3 d168 pl_72_393 oa_72_393 na_72_393 x0_72_393 x1_72_393 x2_72_393 k_pl_72_393 c_pl_72_393 k_oa_72_393 k_na_72_393 d82 d97 d112 (0 : Int64) ((0 : Int64) + (1 : Int64)) (((0 : Int64) + (1 : Int64)) + (1 : Int64)) ((((0 : Int64) + (1 : Int64)) + (1 : Int64)) + (1 : Int64)) k_sa3 (3 : Int32) (2 : Int32) (0 : Int32) (1 : Int32) (2 : Int32) h791 n0 Z803 F796 G791_0 G791_1 G791_2 G791_3 G791_4 G791_5 G791_6 F797 F801 F802 G791_7 G791_8 G791_9 F795 ne404 ne428 ne434 ne410 ne416 ne422 U393_3 U393_4 U393_0 U393_1 U393_2 U393_14 (Ne.symm U393_7) (Ne.symm U393_10) (Ne.symm U393_12) (Ne.symm U393_8) (Ne.symm U393_11) (Ne.symm U393_13) U393_5 U393_6 U393_9 ne379 ne403 ne427 ne433 ne409 ne415 ne421 fr380 fr411 fr417 fr423 fr429 fr435 n_d168 n_d82 n_d97 n_d112 (by rw [z_d168, z_d82]; exact Own.U_lt.mpr (by omega)) d112 (by decide) rfl n_d112 (by rw [z_d168, z_d112]; exact Own.U_lt.mpr (by omega)) (by decide) (by decide) (by decide)) (lenOf pd_10 rfl) rfl (argsL := [.ref sa3, .double d168]) (rest := []) rfl (W := 0) (Nat.le_of_eq rfl) (by decide) (by decide) (by decide) (by decide) fun T804 h804 v804 X804 q804 => ?_
          obtain ⟨rfl, K804, G804_0, G804_1, G804_2⟩ := q804
          have F805 := F795.keep K804 (ninS ne379 (ninS ne409 (ninS ne427 (ninS ne433 nin0))))
          have F806 := F796.keep K804
          have F807 := F797.keep K804 (ninS (Ne.symm ne404) (ninS U393_0 (ninS U393_3 (ninS U393_4 nin0))))
          have F808 := F798.keep K804
          have F809 := F799.keep K804
          have F810 := F800.keep K804
          have F811 := F802.keep K804 (ninS (Ne.symm ne416) (ninS (Ne.symm U393_5) (ninS U393_10 (ninS U393_11 nin0))))
          have F812 := G791_7.keep K804 (ninS (Ne.symm ne422) (ninS (Ne.symm U393_6) (ninS U393_12 (ninS U393_13 nin0))))
          have Z813 : n0 ≤ h804.size := Nat.le_trans Z803 K804.1
          show Own.Go p e below s n0 _ _ _ (T804.setTop (mkF m 172 _ [.int (1 : Int32)]))
          clear F795 F796 F797 F798 F799 F800 F801 F802 G791_0 G791_1 G791_2 G791_3 G791_4 G791_5 G791_6 G791_7 G791_8 G791_9 X791
          refine Own.pop X804 at_172 rfl ?_
          refine Own.iloadN X804 at_173 rfl ?_
          refine Own.iload X804 at_174 rfl ?_
          refine Own.icmp_ X804 (pc' := 182) at_176 (by decide) (fun q => absurd (show i2.toInt ≤ i3.toInt from q) (show ¬ (i2.toInt ≤ i3.toInt) from by omega)) (fun _ => ?_)
          refine Own.iconst X804 (v := 3) at_179 rfl ?_
          refine Own.istore X804 at_180 (l' := #[.val (.int i0), .val (.int i1), .val (.int i2), .val (.int i3), .val (.int i4), .val (.int (3 : Int32)), .val (.int (Own.bo (¬ ((i4 &&& (4 : Int32)).toInt = (0 : Int))))), .val (.ref sa0), .val (.ref sa1), .val (.ref sa2), .val (.ref sa3), .val (.ref pop), .val (.int (3 : Int32)), .val (.int i2), .unset, .unset]) rfl ?_
          exact tl_03 l Z a0 hw (3 : Int32) (Own.bo (¬ ((i4 &&& (4 : Int32)).toInt = (0 : Int)))) i2 sa0 sa1 sa2 sa3 pl_72_393 x0_72_393 x1_72_393 x2_72_393 k_pl_72_393 c_pl_72_393 (X804.more (by decide) (by decide)) Z813 F806 G804_0 G804_1 F807 G804_2 F808
        · refine Own.aload X791 at_163 rfl rfl ?_
          refine Own.aload X791 at_165 rfl rfl ?_
          refine Own.iloadN X791 at_167 rfl ?_
          obtain ⟨d168, e_d168⟩ : ∃ v, FP.i2d i3 = v := ⟨_, rfl⟩
          obtain ⟨f_d168, z_d168⟩ := Own.i2d_v e_d168
          have n_d168 := f_d168.noNaN
          refine Own.i2d X791 at_168 e_d168 ?_
          refine Own.callV_ (y := mn_11) (z := mn_11) (a := pop) X791 at_169 (Own.wd hw 55 rfl) (Own.wd hw 56 rfl) (Own.wd hw 58 rfl) (Own.wd hw 57 rfl) rfl (Own.wd hw 3 rfl) (Own.wd hw 59 rfl) (by decide) F796 (rm6_0A l Z a0 hw pop sa3 d168 pl_72_393 oa_72_393 na_72_393 x0_72_393 x1_72_393 x2_72_393 k_pl_72_393 c_pl_72_393 k_oa_72_393 k_na_72_393 d82 d97 d112 (0 : Int64) ((0 : Int64) + (1 : Int64)) (((0 : Int64) + (1 : Int64)) + (1 : Int64)) ((((0 : Int64) + (1 : Int64)) + (1 : Int64)) + (1 : Int64)) k_sa3 (3 : Int32) (2 : Int32) (0 : Int32) (1 : Int32) (2 : Int32) h791 n0 Z803 F796 G791_0 G791_1 G791_2 G791_3 G791_4 G791_5 G791_6 F797 F801 F802 G791_7 G791_8 G791_9 F795 ne404 ne428 ne434 ne410 ne416 ne422 U393_3 U393_4 U393_0 U393_1 U393_2 U393_14 (Ne.symm U393_7) (Ne.symm U393_10) (Ne.symm U393_12) (Ne.symm U393_8) (Ne.symm U393_11) (Ne.symm U393_13) U393_5 U393_6 U393_9 ne379 ne403 ne427 ne433 ne409 ne415 ne421 fr380 fr411 fr417 fr423 fr429 fr435 n_d168 n_d82 n_d97 n_d112 (by rw [z_d168, z_d82]; exact Own.U_lt.mpr (by omega)) d112 (by decide) rfl n_d112 (by rw [z_d112, z_d168]; exact Own.U_le.mpr (by omega)) (by decide) (by decide) (by decide)) (lenOf pd_10 rfl) rfl (argsL := [.ref sa3, .double d168]) (rest := []) rfl (W := 0) (Nat.le_of_eq rfl) (by decide) (by decide) (by decide) (by decide) fun T814 h814 v814 X814 q814 => ?_
          obtain ⟨rfl, K814, G814_0, G814_1, G814_2⟩ := q814
          have F815 := F795.keep K814 (ninS ne379 (ninS ne409 (ninS ne427 (ninS ne433 nin0))))
          have F816 := F796.keep K814
          have F817 := F797.keep K814 (ninS (Ne.symm ne404) (ninS U393_0 (ninS U393_3 (ninS U393_4 nin0))))
          have F818 := F798.keep K814
          have F819 := F799.keep K814
          have F820 := F800.keep K814
          have F821 := F802.keep K814 (ninS (Ne.symm ne416) (ninS (Ne.symm U393_5) (ninS U393_10 (ninS U393_11 nin0))))
          have F822 := G791_7.keep K814 (ninS (Ne.symm ne422) (ninS (Ne.symm U393_6) (ninS U393_12 (ninS U393_13 nin0))))
          have Z823 : n0 ≤ h814.size := Nat.le_trans Z803 K814.1
          show Own.Go p e below s n0 _ _ _ (T814.setTop (mkF m 172 _ [.int (0 : Int32)]))
          clear F795 F796 F797 F798 F799 F800 F801 F802 G791_0 G791_1 G791_2 G791_3 G791_4 G791_5 G791_6 G791_7 G791_8 G791_9 X791
          refine Own.pop X814 at_172 rfl ?_
          refine Own.iloadN X814 at_173 rfl ?_
          refine Own.iload X814 at_174 rfl ?_
          refine Own.icmp_ X814 (pc' := 182) at_176 (by decide) (fun _ => ?_) (fun q => absurd (show i2.toInt ≤ i3.toInt from by omega) q)
          exact tl_22 l Z a0 hw (3 : Int32) (Own.bo (¬ ((i4 &&& (4 : Int32)).toInt = (0 : Int)))) i2 sa0 sa1 sa2 sa3 pl_72_393 x0_72_393 x1_72_393 x2_72_393 k_pl_72_393 c_pl_72_393 (X814.more (by decide) (by decide)) Z823 F816 G814_0 G814_1 F817 F822 F820
        · refine Own.aload X791 at_163 rfl rfl ?_
          refine Own.aload X791 at_165 rfl rfl ?_
          refine Own.iloadN X791 at_167 rfl ?_
          obtain ⟨d168, e_d168⟩ : ∃ v, FP.i2d i3 = v := ⟨_, rfl⟩
          obtain ⟨f_d168, z_d168⟩ := Own.i2d_v e_d168
          have n_d168 := f_d168.noNaN
          refine Own.i2d X791 at_168 e_d168 ?_
          refine Own.callV_ (y := mn_11) (z := mn_11) (a := pop) X791 at_169 (Own.wd hw 55 rfl) (Own.wd hw 56 rfl) (Own.wd hw 58 rfl) (Own.wd hw 57 rfl) rfl (Own.wd hw 3 rfl) (Own.wd hw 59 rfl) (by decide) F796 (rm6_0R l Z a0 hw pop sa3 d168 oa_72_393 k_oa_72_393 d82 d97 d112 h791 n0 Z803 G791_1 G791_5 G791_8 n_d168 n_d82 (by rw [z_d82, z_d168]; exact Own.U_le.mpr (by omega))) (lenOf pd_10 rfl) rfl (argsL := [.ref sa3, .double d168]) (rest := []) rfl (W := 0) (Nat.le_of_eq rfl) (by decide) (by decide) (by decide) (by decide) fun T824 h824 v824 X824 q824 => ?_
          obtain ⟨rfl, rfl⟩ := q824
          show Own.Go p e below s n0 _ _ _ (T824.setTop (mkF m 172 _ [.int (0 : Int32)]))
          clear X791
          refine Own.pop X824 at_172 rfl ?_
          refine Own.iloadN X824 at_173 rfl ?_
          refine Own.iload X824 at_174 rfl ?_
          refine Own.icmp_ X824 (pc' := 182) at_176 (by decide) (fun _ => ?_) (fun q => absurd (show i2.toInt ≤ i3.toInt from by omega) q)
          exact tl_22 l Z a0 hw (3 : Int32) (Own.bo (¬ ((i4 &&& (4 : Int32)).toInt = (0 : Int)))) i2 sa0 sa1 sa2 sa3 pl_72_393 x0_72_393 x1_72_393 x2_72_393 k_pl_72_393 c_pl_72_393 (X824.more (by decide) (by decide)) Z803 F796 G791_0 G791_6 F797 G791_7 F800
    · refine Own.iload X436 at_86 rfl ?_
      refine Own.iconst X436 (v := 1) at_88 rfl ?_
      refine Own.icmp_ X436 (pc' := 101) at_89 (by decide) (fun q => absurd (show (3 : Int) ≤ (1 : Int) from q) (show ¬ ((3 : Int) ≤ (1 : Int)) from by decide)) (fun _ => ?_)
      refine Own.aload X436 at_92 rfl rfl ?_
      refine Own.aload X436 at_94 rfl rfl ?_
      refine Own.iloadN X436 at_96 rfl ?_
      obtain ⟨d97, e_d97⟩ : ∃ v, FP.i2d i1 = v := ⟨_, rfl⟩
      obtain ⟨f_d97, z_d97⟩ := Own.i2d_v e_d97
      have n_d97 := f_d97.noNaN
      refine Own.i2d X436 at_97 e_d97 ?_
      refine Own.callV_ (y := mn_3) (z := mn_3) (a := pop) X436 at_98 (Own.wd hw 20 rfl) (Own.wd hw 21 rfl) (Own.wd hw 23 rfl) (Own.wd hw 22 rfl) rfl (Own.wd hw 3 rfl) (Own.wd hw 24 rfl) (by decide) F441 (rm3_10000 l Z a0 hw pop sa1 d97 pl_72_393 oa_72_393 na_72_393 x0_72_393 x1_72_393 x2_72_393 k_pl_72_393 c_pl_72_393 k_oa_72_393 k_na_72_393 d82 0 0 (0 : Int64) (0 : Int64) (0 : Int64) ((0 : Int64) + (1 : Int64)) k_sa1 (1 : Int32) (0 : Int32) h436 n0 Z448 F441 G436_0 G436_1 G436_2 G436_3 G436_4 G436_5 G436_6 F442 F443 G436_8 G436_9 F438 ne404 ne428 ne434 ne410 ne416 ne422 U393_3 U393_4 U393_0 U393_1 U393_2 U393_14 (Ne.symm U393_7) (Ne.symm U393_10) (Ne.symm U393_12) (Ne.symm U393_8) (Ne.symm U393_11) (Ne.symm U393_13) U393_5 U393_6 U393_9 ne377 ne401 ne425 ne431 ne407 ne413 ne419 fr380 fr411 fr417 fr423 fr429 fr435 n_d97 n_d82 (by rw [z_d97, z_d82]; exact Own.U_le.mpr (by omega)) (by rw [z_d82, z_d97]; exact Own.U_le.mpr (by omega))) (lenOf pd_13 rfl) rfl (argsL := [.ref sa1, .double d97]) (rest := []) rfl (W := 0) (Nat.le_of_eq rfl) (by decide) (by decide) (by decide) (by decide) fun T825 h825 v825 X825 q825 => ?_
      obtain ⟨rfl, K825, G825_0, G825_1, G825_2, G825_3, G825_4, G825_5, G825_6, G825_7, G825_8, G825_9⟩ := q825
      have F826 := F437.keep K825 (ninS ne376 (ninS ne412 (ninS ne424 (ninS ne430 nin0))))
      have F827 := F438.keep K825 (ninS ne377 (ninS ne413 (ninS ne425 (ninS ne431 nin0))))
      have F828 := F439.keep K825 (ninS ne378 (ninS ne414 (ninS ne426 (ninS ne432 nin0))))
      have F829 := F440.keep K825 (ninS ne379 (ninS ne415 (ninS ne427 (ninS ne433 nin0))))
      have F830 := F441.keep K825
      have F831 := F442.keep K825 (ninS (Ne.symm ne404) (ninS U393_1 (ninS U393_3 (ninS U393_4 nin0))))
      have F832 := F444.keep K825 (ninS (Ne.symm ne422) (ninS (Ne.symm U393_9) (ninS U393_12 (ninS U393_13 nin0))))
      have F833 := F445.keep K825
      have F834 := F446.keep K825
      have F835 := F447.keep K825
      have F836 := G436_7.keep K825 (ninS (Ne.symm ne410) (ninS U393_5 (ninS U393_7 (ninS U393_8 nin0))))
      have Z837 : n0 ≤ h825.size := Nat.le_trans Z448 K825.1
      show Own.Go p e below s n0 _ _ _ (T825.setTop (mkF m 101 _ []))
      clear F437 F438 F439 F440 F441 F442 F443 F444 F445 F446 F447 G436_0 G436_1 G436_2 G436_3 G436_4 G436_5 G436_6 G436_7 G436_8 G436_9 X436
      refine Own.iload X825 at_101 rfl ?_
      refine Own.iconst X825 (v := 2) at_103 rfl ?_
      refine Own.icmp_ X825 (pc' := 116) at_104 (by decide) (fun q => absurd (show (3 : Int) ≤ (2 : Int) from q) (show ¬ ((3 : Int) ≤ (2 : Int)) from by decide)) (fun _ => ?_)
      refine Own.aload X825 at_107 rfl rfl ?_
      refine Own.aload X825 at_109 rfl rfl ?_
      refine Own.iloadN X825 at_111 rfl ?_
      obtain ⟨d112, e_d112⟩ : ∃ v, FP.i2d i2 = v := ⟨_, rfl⟩
      obtain ⟨f_d112, z_d112⟩ := Own.i2d_v e_d112
      have n_d112 := f_d112.noNaN
      refine Own.i2d X825 at_112 e_d112 ?_
      refine Own.callV_ (y := mn_3) (z := mn_3) (a := pop) X825 at_113 (Own.wd hw 20 rfl) (Own.wd hw 21 rfl) (Own.wd hw 23 rfl) (Own.wd hw 22 rfl) rfl (Own.wd hw 3 rfl) (Own.wd hw 24 rfl) (by decide) F830 (rm3_20000 l Z a0 hw pop sa2 d112 pl_72_393 oa_72_393 na_72_393 x0_72_393 x1_72_393 x2_72_393 k_pl_72_393 c_pl_72_393 k_oa_72_393 k_na_72_393 d82 d97 0 (0 : Int64) ((0 : Int64) + (1 : Int64)) (0 : Int64) (((0 : Int64) + (1 : Int64)) + (1 : Int64)) k_sa2 (2 : Int32) (0 : Int32) h825 n0 Z837 F830 G825_0 G825_1 G825_2 G825_3 G825_4 G825_5 G825_6 F831 F832 G825_8 G825_9 F828 ne404 ne428 ne434 ne410 ne416 ne422 U393_3 U393_4 U393_0 U393_1 U393_2 U393_14 (Ne.symm U393_7) (Ne.symm U393_10) (Ne.symm U393_12) (Ne.symm U393_8) (Ne.symm U393_11) (Ne.symm U393_13) U393_5 U393_6 U393_9 ne378 ne402 ne426 ne432 ne408 ne414 ne420 fr380 fr411 fr417 fr423 fr429 fr435 n_d112 n_d82 (by rw [z_d112, z_d82]; exact Own.U_le.mpr (by omega)) (by rw [z_d82, z_d112]; exact Own.U_le.mpr (by omega))) (lenOf pd_13 rfl) rfl (argsL := [.ref sa2, .double d112]) (rest := []) rfl (W := 0) (Nat.le_of_eq rfl) (by decide) (by decide) (by decide) (by decide) fun T838 h838 v838 X838 q838 => ?_
      obtain ⟨rfl, K838, G838_0, G838_1, G838_2, G838_3, G838_4, G838_5, G838_6, G838_7, G838_8, G838_9⟩ := q838
      have F839 := F826.keep K838 (ninS ne376 (ninS ne418 (ninS ne424 (ninS ne430 nin0))))
      have F840 := F827.keep K838 (ninS ne377 (ninS ne419 (ninS ne425 (ninS ne431 nin0))))
      have F841 := F828.keep K838 (ninS ne378 (ninS ne420 (ninS ne426 (ninS ne432 nin0))))
      have F842 := F829.keep K838 (ninS ne379 (ninS ne421 (ninS ne427 (ninS ne433 nin0))))
      have F843 := F830.keep K838
      have F844 := F831.keep K838 (ninS (Ne.symm ne404) (ninS U393_2 (ninS U393_3 (ninS U393_4 nin0))))
      have F845 := F833.keep K838
      have F846 := F834.keep K838
      have F847 := F835.keep K838
      have F848 := F836.keep K838 (ninS (Ne.symm ne410) (ninS U393_6 (ninS U393_7 (ninS U393_8 nin0))))
      have F849 := G825_7.keep K838 (ninS (Ne.symm ne416) (ninS U393_9 (ninS U393_10 (ninS U393_11 nin0))))
      have Z850 : n0 ≤ h838.size := Nat.le_trans Z837 K838.1
      show Own.Go p e below s n0 _ _ _ (T838.setTop (mkF m 116 _ []))
      clear F826 F827 F828 F829 F830 F831 F832 F833 F834 F835 F836 G825_0 G825_1 G825_2 G825_3 G825_4 G825_5 G825_6 G825_7 G825_8 G825_9 X825
      refine Own.iconst X838 (v := 0) at_116 rfl ?_
      refine Own.istore X838 at_117 (l' := #[.val (.int i0), .val (.int i1), .val (.int i2), .val (.int i3), .val (.int i4), .val (.int (3 : Int32)), .val (.int (Own.bo (¬ ((i4 &&& (4 : Int32)).toInt = (0 : Int))))), .val (.ref sa0), .val (.ref sa1), .val (.ref sa2), .val (.ref sa3), .val (.ref pop), .val (.int (0 : Int32)), .unset, .unset, .unset]) rfl ?_
      refine Own.iloadN X838 at_119 rfl ?_
      refine Own.istore X838 at_120 (l' := #[.val (.int i0), .val (.int i1), .val (.int i2), .val (.int i3), .val (.int i4), .val (.int (3 : Int32)), .val (.int (Own.bo (¬ ((i4 &&& (4 : Int32)).toInt = (0 : Int))))), .val (.ref sa0), .val (.ref sa1), .val (.ref sa2), .val (.ref sa3), .val (.ref pop), .val (.int (0 : Int32)), .val (.int i0), .unset, .unset]) rfl ?_
      refine Own.iload X838 at_122 rfl ?_
      refine Own.iconst X838 (v := 1) at_124 rfl ?_
      refine Own.icmp_ X838 (pc' := 140) at_125 (by decide) (fun q => absurd (show (3 : Int) ≤ (1 : Int) from q) (show ¬ ((3 : Int) ≤ (1 : Int)) from by decide)) (fun _ => ?_)
      refine Own.iloadN X838 at_128 rfl ?_
      refine Own.iload X838 at_129 rfl ?_
      refine Own.icmp_ X838 (pc' := 140) at_131 (by decide) (fun _ => ?_) (fun q => absurd (show i0.toInt ≤ i1.toInt from by omega) q)
      refine Own.iload X838 at_140 rfl ?_
      refine Own.iconst X838 (v := 2) at_142 rfl ?_
      refine Own.icmp_ X838 (pc' := 158) at_143 (by decide) (fun q => absurd (show (3 : Int) ≤ (2 : Int) from q) (show ¬ ((3 : Int) ≤ (2 : Int)) from by decide)) (fun _ => ?_)
      refine Own.iloadN X838 at_146 rfl ?_
      refine Own.iload X838 at_147 rfl ?_
      refine Own.icmp_ X838 (pc' := 158) at_149 (by decide) (fun _ => ?_) (fun q => absurd (show i0.toInt ≤ i2.toInt from by omega) q)
      refine Own.iload X838 at_158 rfl ?_
      refine Own.ifeqB X838 (pc' := 182) at_160 (by decide) (fun (h160 : ¬ (¬ ((i4 &&& (4 : Int32)).toInt = (0 : Int)))) => ?_) (fun (h160 : ¬ ((i4 &&& (4 : Int32)).toInt = (0 : Int))) => ?_)
      · exact tl_00 l Z a0 hw (3 : Int32) (Own.bo (¬ ((i4 &&& (4 : Int32)).toInt = (0 : Int)))) i0 sa0 sa1 sa2 sa3 pl_72_393 x0_72_393 x1_72_393 x2_72_393 k_pl_72_393 c_pl_72_393 (X838.more (by decide) (by decide)) Z850 F843 G838_0 G838_6 F844 F848 F845
      · rcases own_off i3 i0 i0 with oo | oo | oo
        · refine Own.aload X838 at_163 rfl rfl ?_
          refine Own.aload X838 at_165 rfl rfl ?_
          refine Own.iloadN X838 at_167 rfl ?_
          obtain ⟨d168, e_d168⟩ : ∃ v, FP.i2d i3 = v := ⟨_, rfl⟩
          obtain ⟨f_d168, z_d168⟩ := Own.i2d_v e_d168
          have n_d168 := f_d168.noNaN
          refine Own.i2d X838 at_168 e_d168 ?_
          refine Own.callV_ (y := mn_11) (z := mn_11) (a := pop) X838 at_169 (Own.wd hw 55 rfl) (Own.wd hw 56 rfl) (Own.wd hw 58 rfl) (Own.wd hw 57 rfl) rfl (Own.wd hw 3 rfl) (Own.wd hw 59 rfl) (by decide) F843 (rm6_0N l Z a0 hw pop sa3 d168 pl_72_393 oa_72_393 na_72_393 x0_72_393 x1_72_393 x2_72_393 k_pl_72_393 c_pl_72_393 k_oa_72_393 k_na_72_393 d82 d97 d112 (0 : Int64) ((0 : Int64) + (1 : Int64)) (((0 : Int64) + (1 : Int64)) + (1 : Int64)) ((((0 : Int64) + (1 : Int64)) + (1 : Int64)) + (1 : Int64)) k_sa3 (3 : Int32) (0 : Int32) (0 : Int32) (1 : Int32) (2 : Int32) h838 n0 Z850 F843 G838_0 G838_1 G838_2 G838_3 G838_4 G838_5 G838_6 F844 F848 F849 G838_7 G838_8 G838_9 F842 ne404 ne428 ne434 ne410 ne416 ne422 U393_3 U393_4 U393_0 U393_1 U393_2 U393_14 (Ne.symm U393_7) (Ne.symm U393_10) (Ne.symm U393_12) (Ne.symm U393_8) (Ne.symm U393_11) (Ne.symm U393_13) U393_5 U393_6 U393_9 ne379 ne403 ne427 ne433 ne409 ne415 ne421 fr380 fr411 fr417 fr423 fr429 fr435 n_d168 n_d82 n_d97 n_d112 (by rw [z_d168, z_d82]; exact Own.U_lt.mpr (by omega)) d82 (by decide) rfl n_d82 (by rw [z_d168, z_d82]; exact Own.U_lt.mpr (by omega)) (by decide) (by decide) (by decide)) (lenOf pd_10 rfl) rfl (argsL := [.ref sa3, .double d168]) (rest := []) rfl (W := 0) (Nat.le_of_eq rfl) (by decide) (by decide) (by decide) (by decide) fun T851 h851 v851 X851 q851 => ?_
          obtain ⟨rfl, K851, G851_0, G851_1, G851_2⟩ := q851
          have F852 := F842.keep K851 (ninS ne379 (ninS ne409 (ninS ne427 (ninS ne433 nin0))))
          have F853 := F843.keep K851
          have F854 := F844.keep K851 (ninS (Ne.symm ne404) (ninS U393_0 (ninS U393_3 (ninS U393_4 nin0))))
          have F855 := F845.keep K851
          have F856 := F846.keep K851
          have F857 := F847.keep K851
          have F858 := F849.keep K851 (ninS (Ne.symm ne416) (ninS (Ne.symm U393_5) (ninS U393_10 (ninS U393_11 nin0))))
          have F859 := G838_7.keep K851 (ninS (Ne.symm ne422) (ninS (Ne.symm U393_6) (ninS U393_12 (ninS U393_13 nin0))))
          have Z860 : n0 ≤ h851.size := Nat.le_trans Z850 K851.1
          show Own.Go p e below s n0 _ _ _ (T851.setTop (mkF m 172 _ [.int (1 : Int32)]))
          clear F842 F843 F844 F845 F846 F847 F848 F849 G838_0 G838_1 G838_2 G838_3 G838_4 G838_5 G838_6 G838_7 G838_8 G838_9 X838
          refine Own.pop X851 at_172 rfl ?_
          refine Own.iloadN X851 at_173 rfl ?_
          refine Own.iload X851 at_174 rfl ?_
          refine Own.icmp_ X851 (pc' := 182) at_176 (by decide) (fun q => absurd (show i0.toInt ≤ i3.toInt from q) (show ¬ (i0.toInt ≤ i3.toInt) from by omega)) (fun _ => ?_)
          refine Own.iconst X851 (v := 3) at_179 rfl ?_
          refine Own.istore X851 at_180 (l' := #[.val (.int i0), .val (.int i1), .val (.int i2), .val (.int i3), .val (.int i4), .val (.int (3 : Int32)), .val (.int (Own.bo (¬ ((i4 &&& (4 : Int32)).toInt = (0 : Int))))), .val (.ref sa0), .val (.ref sa1), .val (.ref sa2), .val (.ref sa3), .val (.ref pop), .val (.int (3 : Int32)), .val (.int i0), .unset, .unset]) rfl ?_
          exact tl_03 l Z a0 hw (3 : Int32) (Own.bo (¬ ((i4 &&& (4 : Int32)).toInt = (0 : Int)))) i0 sa0 sa1 sa2 sa3 pl_72_393 x0_72_393 x1_72_393 x2_72_393 k_pl_72_393 c_pl_72_393 (X851.more (by decide) (by decide)) Z860 F853 G851_0 G851_1 F854 G851_2 F855
        · exact absurd oo (by omega)
        · refine Own.aload X838 at_163 rfl rfl ?_
          refine Own.aload X838 at_165 rfl rfl ?_
          refine Own.iloadN X838 at_167 rfl ?_
          obtain ⟨d168, e_d168⟩ : ∃ v, FP.i2d i3 = v := ⟨_, rfl⟩
          obtain ⟨f_d168, z_d168⟩ := Own.i2d_v e_d168
          have n_d168 := f_d168.noNaN
          refine Own.i2d X838 at_168 e_d168 ?_
          refine Own.callV_ (y := mn_11) (z := mn_11) (a := pop) X838 at_169 (Own.wd hw 55 rfl) (Own.wd hw 56 rfl) (Own.wd hw 58 rfl) (Own.wd hw 57 rfl) rfl (Own.wd hw 3 rfl) (Own.wd hw 59 rfl) (by decide) F843 (rm6_0R l Z a0 hw pop sa3 d168 oa_72_393 k_oa_72_393 d82 d97 d112 h838 n0 Z850 G838_1 G838_5 G838_8 n_d168 n_d82 (by rw [z_d82, z_d168]; exact Own.U_le.mpr (by omega))) (lenOf pd_10 rfl) rfl (argsL := [.ref sa3, .double d168]) (rest := []) rfl (W := 0) (Nat.le_of_eq rfl) (by decide) (by decide) (by decide) (by decide) fun T861 h861 v861 X861 q861 => ?_
          obtain ⟨rfl, rfl⟩ := q861
          show Own.Go p e below s n0 _ _ _ (T861.setTop (mkF m 172 _ [.int (0 : Int32)]))
          clear X838
          refine Own.pop X861 at_172 rfl ?_
          refine Own.iloadN X861 at_173 rfl ?_
          refine Own.iload X861 at_174 rfl ?_
          refine Own.icmp_ X861 (pc' := 182) at_176 (by decide) (fun _ => ?_) (fun q => absurd (show i0.toInt ≤ i3.toInt from by omega) q)
          exact tl_00 l Z a0 hw (3 : Int32) (Own.bo (¬ ((i4 &&& (4 : Int32)).toInt = (0 : Int)))) i0 sa0 sa1 sa2 sa3 pl_72_393 x0_72_393 x1_72_393 x2_72_393 k_pl_72_393 c_pl_72_393 (X861.more (by decide) (by decide)) Z850 F843 G838_0 G838_6 F844 F848 F845
set_option maxRecDepth 65536 in
set_option maxHeartbeats 40000000 in
theorem comes_1 {Post : Tables → Env → Array Value → State → Outcome → State → Prop} (hpost : ∀ tb e args s v u, (limb_1_1.after args s (.returned v) u = true ∧ limb_1_2.after args s (.returned v) u = true ∧ True) → FrameEnd s (.returned v) u (Jvm.fieldLocs frame_1_writes args s ++ Jvm.arrayLocs frame_1_arrays args s ++ Jvm.staticLocs frame_1_statics s) 40 128 → Post tb e args s (.returned v) u) :
    ArmFor flags0 classFile x code maxLocals ret World_1 tables_1 room_1 Calls_1 rest_1 Pre_1 Post := by
  intro l hfl _ _ p e ha hc hk s m args below hf hA hF happ hP
  obtain ⟨hcalls, hrest, hpre⟩ := hP
  obtain ⟨-, -, -, hnamed, -, -, -, hat⟩ := (Spec.applies_iff hf).mp happ
  obtain ⟨hg, hn⟩ := and_e (Cond.before_iff.mp (show (Jvm.Cond.and given_1 narrow_1).before args s = true from hpre))
  obtain ⟨g0, gs1⟩ := and_e hg
  obtain ⟨g1, gs2⟩ := and_e gs1
  obtain ⟨g2, gs3⟩ := and_e gs2
  obtain ⟨g3, gs4⟩ := and_e gs3
  obtain ⟨g4, gs5⟩ := and_e gs4
  have g5 := gs5
  obtain ⟨w0, w1, w2, w3, w4, rfl⟩ : ∃ w0 w1 w2 w3 w4 : Value, args = #[w0, w1, w2, w3, w4] := by
    have hs : args.size = 5 := by simpa [Cond.value, given_1] using g0
    obtain ⟨L⟩ := args
    match L, hs with
    | [w0, w1, w2, w3, w4], _ => exact ⟨w0, w1, w2, w3, w4, rfl⟩
  have hw := fun d (hd : d ∈ tables_1) => atoms_spec (ws := Jvm.Cond.code x code maxLocals ret :: tables_1) hat d (List.mem_cons_of_mem _ hd)
  obtain ⟨i0, ei0⟩ := is_v g1
  obtain rfl : w0 = (.int i0) := Option.some.inj ei0
  obtain ⟨i1, ei1⟩ := is_v g2
  obtain rfl : w1 = (.int i1) := Option.some.inj ei1
  obtain ⟨i2, ei2⟩ := is_v g3
  obtain rfl : w2 = (.int i2) := Option.some.inj ei2
  obtain ⟨i3, ei3⟩ := is_v g4
  obtain rfl : w3 = (.int i3) := Option.some.inj ei3
  obtain ⟨i4, ei4⟩ := is_v g5
  obtain rfl : w4 = (.int i4) := Option.some.inj ei4
  obtain ⟨n, o, h1, h2, h3, v, L, rfl, ⟨hQ, N⟩, hq⟩ := rm0 l s _ hw i0 i1 i2 i3 i4 s.heap s.heap.size (Nat.le_refl _)  p e ha hc hk s m _ below hf ((Spec.applies_iff_loose hf).mp happ).1 ⟨rfl, State.Warmed39.refl s, rfl⟩ trivial
  obtain rfl := hQ
  refine ⟨n, _, h1, h2, h3, hpost _ _ _ _ _ _ ⟨Cond.after_iff.mpr rfl, Cond.after_iff.mpr (eq_i res_at (Term.int_eval (1)) rfl), trivial⟩ ⟨hq.1, hq.2.1, (hq.2.2.sift fun y hy => Or.inr (N y hy)).mono (by decide) (by decide)⟩⟩
theorem main_1_1 : Claimed_1_1 := comes_1 fun _ _ _ _ _ _ h hF => ⟨h.1, hF⟩
theorem main_1_2 : Claimed_1_2 := comes_1 fun _ _ _ _ _ _ h hF => ⟨h.2.1, hF⟩

end Jvm.Pilot.@@N@@
namespace Jvm.Pilot.@@N@@
open Jvm Jvm.ClassFile Sem Op Lib Jvm.Free Jvm.Stand Jvm.Pilot.@@N@@.Jvm.D
/-! MADE BY PROGRAM (witnessworld.py) out of the Statement's table words and the real class files: 17 classes; the members and pool entries that the words name. The judged class is class 1, her method 1. -/
namespace start1
open Jvm.ClassFile
def u (s : String) : CpInfo := .utf8 (stringToUtf16 s)
/-- a pool by its gaps: so many unusable entries, then the entry; so many at the end -/
def gap : Nat → List CpInfo → List CpInfo
  | 0, r => r
  | n + 1, r => .unusable :: gap n r
def poolList (es : List (Nat × CpInfo)) (last : Nat) : List CpInfo := es.foldr (fun e r => gap e.1 (e.2 :: r)) (gap last [])
def pool (es : List (Nat × CpInfo)) (last : Nat) : Array CpInfo := ⟨poolList es last⟩
def fileOf (pool : Array CpInfo) (this : Nat) (attrs : Array Attribute := #[]) (ms : Array MethodInfo := #[]) (fl : Nat := 33) (sup : Nat := 0) (ifs : Array Nat := #[]) (fds : Array FieldInfo := #[]) : ClassFile where
  minorVersion := 0
  majorVersion := 65
  constantPool := pool
  accessFlags := fl
  thisClass := this
  superClass := sup
  interfaces := ifs
  fields := fds
  methods := ms
  attributes := attrs
def plain (name : String) (sup : Option ClassId) : Class where
  name := name
  kind := .ordinary
  loader := none
  accessFlags := 33
  super := sup
  interfaces := #[]
  cf := none
  fields := #[]
  methods := #[]
  instanceTypes := #[]
  staticTypes := #[]
  resolved := #[]
  callSites := []
  init := .initialized
  statics := none
  mirror := none

def pool0 : Array CpInfo := pool [(5, u "<init>"), (0, u "()V"), (1, .class_ 10), (1, u "java/lang/Object"), (85, u "clone"), (0, u "()Ljava/lang/Object;")] 26

def k0c0 : Code := { maxStack := 0, maxLocals := 1, code := object_method_1_code, exceptionTable := #[], attributes := #[] }
def k0m0 : Method := { name := "<init>", desc := "()V", sig := { parameters := [], returnType := none }, accessFlags := 1, code := some k0c0 }
def k0m1 : Method := { name := "clone", desc := "()Ljava/lang/Object;", sig := { parameters := [], returnType := some (.object "java/lang/Object") }, accessFlags := 260, code := none }
/-- java/lang/Object -/
def k0 : Class := { plain "java/lang/Object" none with
  accessFlags := 33
  interfaces := #[]
  cf := some (fileOf pool0 8 #[] #[{ accessFlags := 1, nameIndex := 5, descriptorIndex := 6, attributes := #[] }, { accessFlags := 260, nameIndex := 96, descriptorIndex := 97, attributes := #[] }] 33 0 #[] #[])
  fields := #[]
  methods := #[k0m0, k0m1]
  instanceTypes := #[]
  staticTypes := #[]
  resolved := Array.replicate 124 none
  statics := none }

def pool1 : Array CpInfo := pool [(2, .class_ 4), (1, u "java/lang/Object"), (0, u "<init>"), (0, u "()V"), (0, .class_ 8), (0, u "com/example/allocus/allocus/method/Population"), (0, .methodref 7 10), (0, .nameAndType 5 11), (0, u "(II)V"), (0, .methodref 7 13), (0, .nameAndType 14 15), (0, u "add"), (0, u "([ID)V"), (0, .methodref 7 17), (0, .nameAndType 18 19), (0, u "offer"), (0, u "([ID)Z"), (0, .methodref 7 21), (0, .nameAndType 22 23), (0, u "best"), (0, u "()[I"), (0, .class_ 25), (0, u "com/example/allocus/allocus/method/PopulationBestPinLaw"), (2, u "law"), (0, u "(IIIII)Z")] 5

def k1m0 : Method := { name := "<init>", desc := "()V", sig := { parameters := [], returnType := none }, accessFlags := 1, code := none }
def k1c1 : Code := { maxStack := 4, maxLocals := 16, code := code, exceptionTable := #[], attributes := #[] }
def k1m1 : Method := { name := "law", desc := "(IIIII)Z", sig := { parameters := [.int, .int, .int, .int, .int], returnType := some .boolean }, accessFlags := 9, code := some k1c1 }
/-- com/example/allocus/allocus/method/PopulationBestPinLaw -/
def k1 : Class := { plain "com/example/allocus/allocus/method/PopulationBestPinLaw" (some 0) with
  accessFlags := 49
  interfaces := #[]
  cf := some (fileOf pool1 24 #[] #[{ accessFlags := 1, nameIndex := 5, descriptorIndex := 6, attributes := #[] }, { accessFlags := 9, nameIndex := 28, descriptorIndex := 29, attributes := #[] }] 49 2 #[] #[])
  fields := #[]
  methods := #[k1m0, k1m1]
  instanceTypes := #[]
  staticTypes := #[]
  resolved := Array.replicate 35 none
  statics := none }

def pool2 : Array CpInfo := pool [(1, .methodref 2 3), (0, .class_ 4), (0, .nameAndType 5 6), (0, u "java/lang/Object"), (0, u "<init>"), (0, u "()V"), (0, .class_ 8), (0, u "[[I"), (0, .fieldref 10 11), (0, .class_ 12), (0, .nameAndType 13 8), (0, u "com/example/allocus/allocus/method/Population"), (0, u "plans"), (0, .fieldref 10 15), (0, .nameAndType 16 17), (0, u "objectives"), (0, u "[D"), (0, .fieldref 10 19), (0, .nameAndType 20 21), (0, u "entered"), (0, u "[J"), (0, .fieldref 10 23), (0, .nameAndType 24 25), (0, u "count"), (0, u "I"), (0, .methodref 10 27), (0, .nameAndType 28 29), (0, u "put"), (0, u "(I[ID)V"), (0, .fieldref 10 31), (0, .nameAndType 32 25), (0, u "worst"), (0, .fieldref 10 34), (0, .nameAndType 35 25), (0, u "best"), (0, .methodref 10 37), (0, .nameAndType 38 39), (0, u "isMember"), (0, u "([ID)Z"), (0, .methodref 41 42), (0, .class_ 43), (0, .nameAndType 44 45), (0, u "[I"), (0, u "clone"), (0, u "()Ljava/lang/Object;"), (0, .methodref 47 48), (0, .class_ 49), (0, .nameAndType 50 51), (0, u "java/lang/System"), (0, u "arraycopy"), (0, u "(Ljava/lang/Object;ILjava/lang/Object;II)V"), (0, .fieldref 10 53), (0, .nameAndType 54 55), (0, u "entries"), (0, u "J"), (0, .methodref 57 58), (0, .class_ 59), (0, .nameAndType 60 61), (0, u "java/util/Arrays"), (0, u "equals"), (0, u "([I[I)Z"), (0, u "(II)V"), (5, u "add"), (0, u "([ID)V"), (1, u "offer"), (2, u "()[I")] 4

def k2c0 : Code := { maxStack := 3, maxLocals := 3, code := prog_48_method_1_code, exceptionTable := #[], attributes := #[] }
def k2m0 : Method := { name := "<init>", desc := "(II)V", sig := { parameters := [.int, .int], returnType := none }, accessFlags := 0, code := some k2c0 }
def k2c1 : Code := { maxStack := 5, maxLocals := 5, code := prog_48_method_5_code, exceptionTable := #[], attributes := #[] }
def k2m1 : Method := { name := "add", desc := "([ID)V", sig := { parameters := [(.array .int), .double], returnType := none }, accessFlags := 0, code := some k2c1 }
def k2c2 : Code := { maxStack := 5, maxLocals := 7, code := prog_48_method_6_code, exceptionTable := #[], attributes := #[] }
def k2m2 : Method := { name := "offer", desc := "([ID)Z", sig := { parameters := [(.array .int), .double], returnType := some .boolean }, accessFlags := 0, code := some k2c2 }
def k2c3 : Code := { maxStack := 2, maxLocals := 1, code := prog_48_method_8_code, exceptionTable := #[], attributes := #[] }
def k2m3 : Method := { name := "best", desc := "()[I", sig := { parameters := [], returnType := some (.array .int) }, accessFlags := 0, code := some k2c3 }
def k2c4 : Code := { maxStack := 5, maxLocals := 5, code := prog_48_method_10_code, exceptionTable := #[], attributes := #[] }
def k2m4 : Method := { name := "put", desc := "(I[ID)V", sig := { parameters := [.int, (.array .int), .double], returnType := none }, accessFlags := 2, code := some k2c4 }
def k2c5 : Code := { maxStack := 4, maxLocals := 5, code := prog_48_method_11_code, exceptionTable := #[], attributes := #[] }
def k2m5 : Method := { name := "isMember", desc := "([ID)Z", sig := { parameters := [(.array .int), .double], returnType := some .boolean }, accessFlags := 2, code := some k2c5 }
/-- com/example/allocus/allocus/method/Population -/
def k2 : Class := { plain "com/example/allocus/allocus/method/Population" (some 0) with
  accessFlags := 48
  interfaces := #[]
  cf := some (fileOf pool2 10 #[] #[{ accessFlags := 0, nameIndex := 5, descriptorIndex := 62, attributes := #[] }, { accessFlags := 0, nameIndex := 68, descriptorIndex := 69, attributes := #[] }, { accessFlags := 0, nameIndex := 71, descriptorIndex := 39, attributes := #[] }, { accessFlags := 0, nameIndex := 35, descriptorIndex := 74, attributes := #[] }, { accessFlags := 2, nameIndex := 28, descriptorIndex := 29, attributes := #[] }, { accessFlags := 2, nameIndex := 38, descriptorIndex := 39, attributes := #[] }] 48 2 #[] #[{ accessFlags := 18, nameIndex := 13, descriptorIndex := 8, attributes := #[] }, { accessFlags := 18, nameIndex := 16, descriptorIndex := 17, attributes := #[] }, { accessFlags := 18, nameIndex := 20, descriptorIndex := 21, attributes := #[] }, { accessFlags := 2, nameIndex := 24, descriptorIndex := 25, attributes := #[] }, { accessFlags := 2, nameIndex := 54, descriptorIndex := 55, attributes := #[] }, { accessFlags := 2, nameIndex := 32, descriptorIndex := 25, attributes := #[] }, { accessFlags := 2, nameIndex := 35, descriptorIndex := 25, attributes := #[] }])
  fields := #[{ name := "plans", type := (.array (.array .int)), accessFlags := 18, slot := 0, constantValue := 0 }, { name := "objectives", type := (.array .double), accessFlags := 18, slot := 1, constantValue := 0 }, { name := "entered", type := (.array .long), accessFlags := 18, slot := 2, constantValue := 0 }, { name := "count", type := .int, accessFlags := 2, slot := 3, constantValue := 0 }, { name := "entries", type := .long, accessFlags := 2, slot := 4, constantValue := 0 }, { name := "worst", type := .int, accessFlags := 2, slot := 5, constantValue := 0 }, { name := "best", type := .int, accessFlags := 2, slot := 6, constantValue := 0 }]
  methods := #[k2m0, k2m1, k2m2, k2m3, k2m4, k2m5]
  instanceTypes := #[(.array (.array .int)), (.array .double), (.array .long), .int, .long, .int, .int]
  staticTypes := #[]
  resolved := Array.replicate 79 none
  statics := none }

def pool3 : Array CpInfo := pool [(2, .class_ 4), (1, u "java/lang/Object"), (0, u "<init>"), (0, u "()V"), (1, .class_ 10), (1, u "java/lang/System"), (0, u "allowSecurityManager"), (0, u "I"), (16, u "cons"), (0, u "Ljava/io/Console;"), (77, .class_ 110), (1, u "java/lang/System$CallersHolder"), (43, u "initialErrStream"), (0, u "Ljava/io/PrintStream;"), (19, u "security"), (0, u "Ljava/lang/SecurityManager;"), (31, .class_ 209), (0, u "java/lang/System$1"), (7, u "props"), (0, u "Ljava/util/Properties;"), (2, u "lineSeparator"), (0, u "Ljava/lang/String;"), (96, .class_ 321), (1, u "java/lang/System$LoggerFinder"), (5, .class_ 328), (0, u "java/lang/System$Logger"), (67, u "err"), (2, u "out"), (91, u "notSupportedJnuEncoding"), (15, u "in"), (17, u "initialIn"), (0, u "Ljava/io/InputStream;"), (35, u "bootLayer"), (0, u "Ljava/lang/ModuleLayer;"), (99, .class_ 664), (0, u "java/lang/System$2"), (9, u "NEVER"), (2, u "MAYBE"), (49, u "arraycopy"), (0, u "(Ljava/lang/Object;ILjava/lang/Object;II)V"), (72, .class_ 802), (0, u "java/lang/System$Logger$Level")] 31

def k3m0 : Method := { name := "<init>", desc := "()V", sig := { parameters := [], returnType := none }, accessFlags := 2, code := none }
def k3m1 : Method := { name := "arraycopy", desc := "(Ljava/lang/Object;ILjava/lang/Object;II)V", sig := { parameters := [(.object "java/lang/Object"), .int, (.object "java/lang/Object"), .int, .int], returnType := none }, accessFlags := 265, code := none }
/-- java/lang/System -/
def k3 : Class := { plain "java/lang/System" (some 0) with
  accessFlags := 49
  interfaces := #[]
  cf := some (fileOf pool3 8 #[.nestMembers #[319, 327, 801, 108, 663, 208]] #[{ accessFlags := 2, nameIndex := 5, descriptorIndex := 6, attributes := #[] }, { accessFlags := 265, nameIndex := 727, descriptorIndex := 728, attributes := #[] }] 49 2 #[] #[{ accessFlags := 25, nameIndex := 507, descriptorIndex := 526, attributes := #[] }, { accessFlags := 25, nameIndex := 399, descriptorIndex := 155, attributes := #[] }, { accessFlags := 25, nameIndex := 396, descriptorIndex := 155, attributes := #[] }, { accessFlags := 10, nameIndex := 525, descriptorIndex := 526, attributes := #[] }, { accessFlags := 26, nameIndex := 674, descriptorIndex := 12, attributes := #[] }, { accessFlags := 26, nameIndex := 677, descriptorIndex := 12, attributes := #[] }, { accessFlags := 10, nameIndex := 11, descriptorIndex := 12, attributes := #[] }, { accessFlags := 74, nameIndex := 175, descriptorIndex := 176, attributes := #[] }, { accessFlags := 10, nameIndex := 491, descriptorIndex := 222, attributes := #[] }, { accessFlags := 74, nameIndex := 29, descriptorIndex := 30, attributes := #[] }, { accessFlags := 74, nameIndex := 154, descriptorIndex := 155, attributes := #[] }, { accessFlags := 10, nameIndex := 217, descriptorIndex := 218, attributes := #[] }, { accessFlags := 10, nameIndex := 221, descriptorIndex := 222, attributes := #[] }, { accessFlags := 8, nameIndex := 562, descriptorIndex := 563, attributes := #[] }])
  fields := #[{ name := "in", type := (.object "java/io/InputStream"), accessFlags := 25, slot := 0, constantValue := 0 }, { name := "out", type := (.object "java/io/PrintStream"), accessFlags := 25, slot := 1, constantValue := 0 }, { name := "err", type := (.object "java/io/PrintStream"), accessFlags := 25, slot := 2, constantValue := 0 }, { name := "initialIn", type := (.object "java/io/InputStream"), accessFlags := 10, slot := 3, constantValue := 0 }, { name := "NEVER", type := .int, accessFlags := 26, slot := 4, constantValue := 0 }, { name := "MAYBE", type := .int, accessFlags := 26, slot := 5, constantValue := 0 }, { name := "allowSecurityManager", type := .int, accessFlags := 10, slot := 6, constantValue := 0 }, { name := "security", type := (.object "java/lang/SecurityManager"), accessFlags := 74, slot := 7, constantValue := 0 }, { name := "notSupportedJnuEncoding", type := (.object "java/lang/String"), accessFlags := 10, slot := 8, constantValue := 0 }, { name := "cons", type := (.object "java/io/Console"), accessFlags := 74, slot := 9, constantValue := 0 }, { name := "initialErrStream", type := (.object "java/io/PrintStream"), accessFlags := 74, slot := 10, constantValue := 0 }, { name := "props", type := (.object "java/util/Properties"), accessFlags := 10, slot := 11, constantValue := 0 }, { name := "lineSeparator", type := (.object "java/lang/String"), accessFlags := 10, slot := 12, constantValue := 0 }, { name := "bootLayer", type := (.object "java/lang/ModuleLayer"), accessFlags := 8, slot := 13, constantValue := 0 }]
  methods := #[k3m0, k3m1]
  instanceTypes := #[]
  staticTypes := #[(.object "java/io/InputStream"), (.object "java/io/PrintStream"), (.object "java/io/PrintStream"), (.object "java/io/InputStream"), .int, .int, .int, (.object "java/lang/SecurityManager"), (.object "java/lang/String"), (.object "java/io/Console"), (.object "java/io/PrintStream"), (.object "java/util/Properties"), (.object "java/lang/String"), (.object "java/lang/ModuleLayer")]
  resolved := Array.replicate 834 none
  statics := none }

def pool4 : Array CpInfo := pool [(1, .class_ 2), (0, u "java/lang/Cloneable"), (0, .class_ 4), (0, u "java/lang/Object")] 2

/-- java/lang/Cloneable -/
def k4 : Class := { plain "java/lang/Cloneable" (some 0) with
  accessFlags := 1537
  interfaces := #[]
  cf := some (fileOf pool4 1 #[] #[] 1537 3 #[] #[])
  fields := #[]
  methods := #[]
  instanceTypes := #[]
  staticTypes := #[]
  resolved := Array.replicate 7 none
  statics := none }

def pool5 : Array CpInfo := pool [(2, .class_ 4), (1, u "java/lang/Object"), (0, u "<init>"), (0, u "()V"), (7, .class_ 16), (1, u "java/util/Arrays"), (57, .class_ 76), (1, u "java/util/Arrays$NaturalOrder"), (36, .class_ 115), (1, u "java/util/Arrays$LegacyMergeSort"), (1, u "Z"), (128, .class_ 248), (1, u "jdk/internal/util/ArraysSupport"), (0, u "mismatch"), (4, .methodref 246 255), (0, .nameAndType 249 256), (0, u "([I[II)I"), (41, u "equals"), (76, .class_ 376), (0, u "java/util/Arrays$ArrayList"), (68, u "$assertionsDisabled"), (15, u "([I[I)Z"), (253, u "MIN_ARRAY_SORT_GRAN"), (0, u "I"), (2, u "INSERTIONSORT_THRESHOLD"), (255, .class_ 976), (0, u "java/util/Arrays$ArrayItr")] 52

def k5m0 : Method := { name := "<init>", desc := "()V", sig := { parameters := [], returnType := none }, accessFlags := 2, code := none }
def k5c1 : Code := { maxStack := 3, maxLocals := 3, code := jdk_65_method_83_code, exceptionTable := #[], attributes := #[] }
def k5m1 : Method := { name := "equals", desc := "([I[I)Z", sig := { parameters := [(.array .int), (.array .int)], returnType := some .boolean }, accessFlags := 9, code := some k5c1 }
/-- java/util/Arrays -/
def k5 : Class := { plain "java/util/Arrays" (some 0) with
  accessFlags := 49
  interfaces := #[]
  cf := some (fileOf pool5 14 #[.nestMembers #[975, 375, 113, 74]] #[{ accessFlags := 2, nameIndex := 5, descriptorIndex := 6, attributes := #[] }, { accessFlags := 9, nameIndex := 298, descriptorIndex := 461, attributes := #[] }] 49 2 #[] #[{ accessFlags := 26, nameIndex := 715, descriptorIndex := 716, attributes := #[] }, { accessFlags := 26, nameIndex := 719, descriptorIndex := 716, attributes := #[] }, { accessFlags := 4120, nameIndex := 445, descriptorIndex := 117, attributes := #[] }])
  fields := #[{ name := "MIN_ARRAY_SORT_GRAN", type := .int, accessFlags := 26, slot := 0, constantValue := 0 }, { name := "INSERTIONSORT_THRESHOLD", type := .int, accessFlags := 26, slot := 1, constantValue := 0 }, { name := "$assertionsDisabled", type := .boolean, accessFlags := 4120, slot := 2, constantValue := 0 }]
  methods := #[k5m0, k5m1]
  instanceTypes := #[]
  staticTypes := #[.int, .int, .boolean]
  resolved := Array.replicate 1029 none
  statics := none }

def pool6 : Array CpInfo := pool [(9, u "<init>"), (6, .class_ 18), (1, u "java/lang/Object"), (0, u "()V"), (1, .class_ 23), (1, u "jdk/internal/util/ArraysSupport"), (0, u "LOG2_ARRAY_LONG_INDEX_SCALE"), (0, u "I"), (2, u "U"), (0, u "Ljdk/internal/misc/Unsafe;"), (8, u "BIG_ENDIAN"), (0, u "Z"), (8, u "LOG2_BYTE_BIT_SIZE"), (4, u "LOG2_ARRAY_INT_INDEX_SCALE"), (54, u "JLA"), (0, u "Ljdk/internal/access/JavaLangAccess;"), (11, u "LOG2_ARRAY_BOOLEAN_INDEX_SCALE"), (9, u "LOG2_ARRAY_BYTE_INDEX_SCALE"), (5, u "LOG2_ARRAY_CHAR_INDEX_SCALE"), (5, u "LOG2_ARRAY_SHORT_INDEX_SCALE"), (5, u "mismatch"), (12, u "LOG2_ARRAY_FLOAT_INDEX_SCALE"), (24, u "LOG2_ARRAY_DOUBLE_INDEX_SCALE"), (89, u "T_BOOLEAN"), (2, u "T_CHAR"), (1, u "T_FLOAT"), (1, u "T_DOUBLE"), (1, u "T_BYTE"), (1, u "T_SHORT"), (1, u "T_INT"), (1, u "T_LONG"), (1, u "SOFT_MAX_ARRAY_LENGTH"), (47, u "([I[II)I")] 35

def k6m0 : Method := { name := "<init>", desc := "()V", sig := { parameters := [], returnType := none }, accessFlags := 2, code := none }
def k6c1 : Code := { maxStack := 8, maxLocals := 4, code := jdk_48_method_19_code, exceptionTable := #[], attributes := #[] }
def k6m1 : Method := { name := "mismatch", desc := "([I[II)I", sig := { parameters := [(.array .int), (.array .int), .int], returnType := some .int }, accessFlags := 9, code := some k6c1 }
/-- jdk/internal/util/ArraysSupport -/
def k6 : Class := { plain "jdk/internal/util/ArraysSupport" (some 0) with
  accessFlags := 33
  interfaces := #[]
  cf := some (fileOf pool6 21 #[] #[{ accessFlags := 2, nameIndex := 9, descriptorIndex := 19, attributes := #[] }, { accessFlags := 9, nameIndex := 149, descriptorIndex := 342, attributes := #[] }] 33 16 #[] #[{ accessFlags := 24, nameIndex := 28, descriptorIndex := 29, attributes := #[] }, { accessFlags := 26, nameIndex := 38, descriptorIndex := 39, attributes := #[] }, { accessFlags := 25, nameIndex := 121, descriptorIndex := 25, attributes := #[] }, { accessFlags := 25, nameIndex := 131, descriptorIndex := 25, attributes := #[] }, { accessFlags := 25, nameIndex := 137, descriptorIndex := 25, attributes := #[] }, { accessFlags := 25, nameIndex := 143, descriptorIndex := 25, attributes := #[] }, { accessFlags := 25, nameIndex := 53, descriptorIndex := 25, attributes := #[] }, { accessFlags := 25, nameIndex := 24, descriptorIndex := 25, attributes := #[] }, { accessFlags := 25, nameIndex := 162, descriptorIndex := 25, attributes := #[] }, { accessFlags := 25, nameIndex := 187, descriptorIndex := 25, attributes := #[] }, { accessFlags := 26, nameIndex := 48, descriptorIndex := 25, attributes := #[] }, { accessFlags := 25, nameIndex := 277, descriptorIndex := 25, attributes := #[] }, { accessFlags := 25, nameIndex := 280, descriptorIndex := 25, attributes := #[] }, { accessFlags := 25, nameIndex := 282, descriptorIndex := 25, attributes := #[] }, { accessFlags := 25, nameIndex := 284, descriptorIndex := 25, attributes := #[] }, { accessFlags := 25, nameIndex := 286, descriptorIndex := 25, attributes := #[] }, { accessFlags := 25, nameIndex := 288, descriptorIndex := 25, attributes := #[] }, { accessFlags := 25, nameIndex := 290, descriptorIndex := 25, attributes := #[] }, { accessFlags := 25, nameIndex := 292, descriptorIndex := 25, attributes := #[] }, { accessFlags := 26, nameIndex := 108, descriptorIndex := 109, attributes := #[] }, { accessFlags := 25, nameIndex := 294, descriptorIndex := 25, attributes := #[] }])
  fields := #[{ name := "U", type := (.object "jdk/internal/misc/Unsafe"), accessFlags := 24, slot := 0, constantValue := 0 }, { name := "BIG_ENDIAN", type := .boolean, accessFlags := 26, slot := 1, constantValue := 0 }, { name := "LOG2_ARRAY_BOOLEAN_INDEX_SCALE", type := .int, accessFlags := 25, slot := 2, constantValue := 0 }, { name := "LOG2_ARRAY_BYTE_INDEX_SCALE", type := .int, accessFlags := 25, slot := 3, constantValue := 0 }, { name := "LOG2_ARRAY_CHAR_INDEX_SCALE", type := .int, accessFlags := 25, slot := 4, constantValue := 0 }, { name := "LOG2_ARRAY_SHORT_INDEX_SCALE", type := .int, accessFlags := 25, slot := 5, constantValue := 0 }, { name := "LOG2_ARRAY_INT_INDEX_SCALE", type := .int, accessFlags := 25, slot := 6, constantValue := 0 }, { name := "LOG2_ARRAY_LONG_INDEX_SCALE", type := .int, accessFlags := 25, slot := 7, constantValue := 0 }, { name := "LOG2_ARRAY_FLOAT_INDEX_SCALE", type := .int, accessFlags := 25, slot := 8, constantValue := 0 }, { name := "LOG2_ARRAY_DOUBLE_INDEX_SCALE", type := .int, accessFlags := 25, slot := 9, constantValue := 0 }, { name := "LOG2_BYTE_BIT_SIZE", type := .int, accessFlags := 26, slot := 10, constantValue := 0 }, { name := "T_BOOLEAN", type := .int, accessFlags := 25, slot := 11, constantValue := 0 }, { name := "T_CHAR", type := .int, accessFlags := 25, slot := 12, constantValue := 0 }, { name := "T_FLOAT", type := .int, accessFlags := 25, slot := 13, constantValue := 0 }, { name := "T_DOUBLE", type := .int, accessFlags := 25, slot := 14, constantValue := 0 }, { name := "T_BYTE", type := .int, accessFlags := 25, slot := 15, constantValue := 0 }, { name := "T_SHORT", type := .int, accessFlags := 25, slot := 16, constantValue := 0 }, { name := "T_INT", type := .int, accessFlags := 25, slot := 17, constantValue := 0 }, { name := "T_LONG", type := .int, accessFlags := 25, slot := 18, constantValue := 0 }, { name := "JLA", type := (.object "jdk/internal/access/JavaLangAccess"), accessFlags := 26, slot := 19, constantValue := 0 }, { name := "SOFT_MAX_ARRAY_LENGTH", type := .int, accessFlags := 25, slot := 20, constantValue := 0 }]
  methods := #[k6m0, k6m1]
  instanceTypes := #[]
  staticTypes := #[(.object "jdk/internal/misc/Unsafe"), .boolean, .int, .int, .int, .int, .int, .int, .int, .int, .int, .int, .int, .int, .int, .int, .int, .int, .int, (.object "jdk/internal/access/JavaLangAccess"), .int]
  resolved := Array.replicate 378 none
  statics := none }

def pool7 : Array CpInfo := pool [(1, u "java/io/Serializable"), (0, .class_ 1), (0, u "java/lang/Object"), (0, .class_ 3)] 3

/-- java/io/Serializable -/
def k7 : Class := { plain "java/io/Serializable" (some 0) with
  accessFlags := 1537
  interfaces := #[]
  cf := some (fileOf pool7 2 #[] #[] 1537 4 #[] #[])
  fields := #[]
  methods := #[]
  instanceTypes := #[]
  staticTypes := #[]
  resolved := Array.replicate 8 none
  statics := none }

/-- the primitive byte -/
def k8 : Class := { plain "byte" none with kind := .primitive 'B', accessFlags := 0x411 }
/-- [B -/
def k9 : Class := { plain "[B" (some 0) with kind := .array 8 .byte, interfaces := #[4, 7], accessFlags := 1041 }

/-- the primitive double -/
def k10 : Class := { plain "double" none with kind := .primitive 'D', accessFlags := 0x411 }
/-- [D -/
def k11 : Class := { plain "[D" (some 0) with kind := .array 10 .double, interfaces := #[4, 7], accessFlags := 1041 }

/-- the primitive int -/
def k12 : Class := { plain "int" none with kind := .primitive 'I', accessFlags := 0x411 }
/-- [I -/
def k13 : Class := { plain "[I" (some 0) with kind := .array 12 .int, interfaces := #[4, 7], accessFlags := 1041 }

/-- the primitive long -/
def k14 : Class := { plain "long" none with kind := .primitive 'J', accessFlags := 0x411 }
/-- [J -/
def k15 : Class := { plain "[J" (some 0) with kind := .array 14 .long, interfaces := #[4, 7], accessFlags := 1041 }

/-- [[I -/
def k16 : Class := { plain "[[I" (some 0) with kind := .array 13 (.array .int), interfaces := #[4, 7], accessFlags := 1041 }

def heap : Heap := #[]
def classes : Array Class := #[k0, k1, k2, k3, k4, k5, k6, k7, k8, k9, k10, k11, k12, k13, k14, k15, k16]
def interned : List (Array UInt16 × Addr) := []
def slotsUsed : Nat := 0
def theMethod : MethodId := ⟨1, 1⟩
def args0 : Array Value := #[.int 5, .int 7, .int 0, .int 3, .int 2]
def aboutOver (below : List Frame) : State where
  vm := { classes := classes, interned := interned.toArray }
  heap := heap
  slotsUsed := slotsUsed
  threads := #[{ frames := .invoking theMethod args0 :: below }]
def below0 : List Frame := [.native { method := ⟨0, 0⟩, args := #[] }]
def about1 : State := aboutOver below0
def p0 : Program := .bare "" "" ""
def e0 : Env := launch0.env 0 0 0
theorem w_frames : about1.frames = Frame.invoking theMethod args0 :: below0 := rfl
set_option maxRecDepth 65536 in
theorem w_args : argsFit about1.vm theMethod args0 = true := by decide +kernel
set_option maxRecDepth 65536 in
theorem w_heap : heapFits about1 = true := by decide +kernel
set_option maxRecDepth 65536 in
theorem w_runnable : about1.curStatus? = some .runnable := by decide +kernel
set_option maxRecDepth 65536 in
theorem w_alone : about1.alone = true := by decide +kernel
set_option maxRecDepth 65536 in
theorem w_named : about1.methodNamed? x = some theMethod := by decide +kernel
set_option maxRecDepth 65536 in
theorem w_hears : about1.hears theMethod below0 = true := by decide +kernel
set_option maxRecDepth 65536 in
theorem w_ripe : about1.ripe theMethod args0 below0 = true := by decide +kernel
theorem w_running : about1.status = .running := rfl
set_option maxRecDepth 65536 in
theorem w_room : about1.hasRoom e0.platform room_1 = true :=
  launch0.hasRoom_least _ room_1 (by decide +kernel) (by decide +kernel) (by decide +kernel) (by decide +kernel) (by decide +kernel) (by decide +kernel)
theorem allAtoms_all (ts : List Jvm.Cond) (a : Array Jvm.Value) (st : Jvm.State) : (allAtoms ts).before a st = ts.all (fun c => c.before a st) := by
  induction ts with
  | nil => rfl
  | cons c t ih =>
    show (Jvm.Cond.and c (allAtoms t)).before a st = _
    rw [Jvm.Cond.before_and, ih, List.all_cons]
def words1 : List Jvm.Cond := Jvm.Cond.code x code maxLocals ret :: tables_1
/-- a 'code' word, met by the world's own term for the bytes: nothing is compared byte by byte -/
theorem code_word {y : MethodName} {bytes : ByteArray} {mx : Nat} {rt : Option FieldType} {a : Array Value} {s : State} {m : MethodId} {meth : Method} {c : Code} (h1 : s.methodNamed? y = some m) (h2 : s.vm.method? m = some meth) (h3 : meth.code = some c) (h4 : c.code = bytes)
    (h5 : (c.maxLocals == mx && c.exceptionTable.isEmpty && decide (c.maxStack ≤ mostOperands) && decide (meth.sig.returnType = rt) && !meth.locks && decide (parseMethodDescriptor y.desc = some meth.sig)) = true) : (Jvm.Cond.code y bytes mx rt).before a s = true := by
  simp only [Bool.and_eq_true, beq_iff_eq, Bool.not_eq_true', decide_eq_true_eq] at h5
  obtain ⟨⟨⟨⟨⟨g1, g2⟩, g3⟩, g4⟩, g5⟩, g6⟩ := h5
  simp [Cond.before, Cond.holds, Cond.value, h1, h2, h3, h4, g1, g2, g3, g4, g5, g6]
def isCode : Jvm.Cond → Bool
  | .code _ _ _ _ => true
  | _ => false
theorem all_split {L : List Jvm.Cond} {P : Jvm.Cond → Bool} (h1 : L.all (fun c => isCode c || P c) = true) (h2 : ∀ c ∈ L.filter isCode, P c = true) : L.all P = true := by
  refine List.all_eq_true.mpr fun c hc => ?_
  have h := List.all_eq_true.mp h1 c hc
  rcases Bool.eq_false_or_eq_true (isCode c) with hi | hi
  · exact h2 c (List.mem_filter.mpr ⟨hc, hi⟩)
  · simpa [hi] using h
set_option maxRecDepth 65536 in
theorem w_c0 : (Jvm.Cond.code x code maxLocals ret).before args0 about1 = true := code_word (m := ⟨1, 1⟩) (meth := k1m1) (c := k1c1) (by decide +kernel) rfl rfl rfl (by decide +kernel)
set_option maxRecDepth 65536 in
theorem w_c1 : (Jvm.Cond.code ({ cls := "com/example/allocus/allocus/method/Population", name := "<init>", desc := "(II)V" } : Jvm.MethodName) prog_48_method_1_code (3 : Nat) (Option.none : Option Jvm.ClassFile.FieldType)).before args0 about1 = true := code_word (m := ⟨2, 0⟩) (meth := k2m0) (c := k2c0) (by decide +kernel) rfl rfl rfl (by decide +kernel)
set_option maxRecDepth 65536 in
theorem w_c2 : (Jvm.Cond.code ({ cls := "java/lang/Object", name := "<init>", desc := "()V" } : Jvm.MethodName) object_method_1_code (1 : Nat) (Option.none : Option Jvm.ClassFile.FieldType)).before args0 about1 = true := code_word (m := ⟨0, 0⟩) (meth := k0m0) (c := k0c0) (by decide +kernel) rfl rfl rfl (by decide +kernel)
set_option maxRecDepth 65536 in
theorem w_c3 : (Jvm.Cond.code ({ cls := "com/example/allocus/allocus/method/Population", name := "add", desc := "([ID)V" } : Jvm.MethodName) prog_48_method_5_code (5 : Nat) (Option.none : Option Jvm.ClassFile.FieldType)).before args0 about1 = true := code_word (m := ⟨2, 1⟩) (meth := k2m1) (c := k2c1) (by decide +kernel) rfl rfl rfl (by decide +kernel)
set_option maxRecDepth 65536 in
theorem w_c4 : (Jvm.Cond.code ({ cls := "com/example/allocus/allocus/method/Population", name := "put", desc := "(I[ID)V" } : Jvm.MethodName) prog_48_method_10_code (5 : Nat) (Option.none : Option Jvm.ClassFile.FieldType)).before args0 about1 = true := code_word (m := ⟨2, 4⟩) (meth := k2m4) (c := k2c4) (by decide +kernel) rfl rfl rfl (by decide +kernel)
set_option maxRecDepth 65536 in
theorem w_c5 : (Jvm.Cond.code ({ cls := "com/example/allocus/allocus/method/Population", name := "best", desc := "()[I" } : Jvm.MethodName) prog_48_method_8_code (1 : Nat) (Option.some (Jvm.ClassFile.FieldType.array Jvm.ClassFile.FieldType.int))).before args0 about1 = true := code_word (m := ⟨2, 3⟩) (meth := k2m3) (c := k2c3) (by decide +kernel) rfl rfl rfl (by decide +kernel)
set_option maxRecDepth 65536 in
theorem w_c6 : (Jvm.Cond.code ({ cls := "com/example/allocus/allocus/method/Population", name := "offer", desc := "([ID)Z" } : Jvm.MethodName) prog_48_method_6_code (7 : Nat) (Option.some Jvm.ClassFile.FieldType.boolean)).before args0 about1 = true := code_word (m := ⟨2, 2⟩) (meth := k2m2) (c := k2c2) (by decide +kernel) rfl rfl rfl (by decide +kernel)
set_option maxRecDepth 65536 in
theorem w_c7 : (Jvm.Cond.code ({ cls := "com/example/allocus/allocus/method/Population", name := "isMember", desc := "([ID)Z" } : Jvm.MethodName) prog_48_method_11_code (5 : Nat) (Option.some Jvm.ClassFile.FieldType.boolean)).before args0 about1 = true := code_word (m := ⟨2, 5⟩) (meth := k2m5) (c := k2c5) (by decide +kernel) rfl rfl rfl (by decide +kernel)
set_option maxRecDepth 65536 in
theorem w_c8 : (Jvm.Cond.code ({ cls := "java/util/Arrays", name := "equals", desc := "([I[I)Z" } : Jvm.MethodName) jdk_65_method_83_code (3 : Nat) (Option.some Jvm.ClassFile.FieldType.boolean)).before args0 about1 = true := code_word (m := ⟨5, 1⟩) (meth := k5m1) (c := k5c1) (by decide +kernel) rfl rfl rfl (by decide +kernel)
set_option maxRecDepth 65536 in
theorem w_c9 : (Jvm.Cond.code ({ cls := "jdk/internal/util/ArraysSupport", name := "mismatch", desc := "([I[II)I" } : Jvm.MethodName) jdk_48_method_19_code (4 : Nat) (Option.some Jvm.ClassFile.FieldType.int)).before args0 about1 = true := code_word (m := ⟨6, 1⟩) (meth := k6m1) (c := k6c1) (by decide +kernel) rfl rfl rfl (by decide +kernel)
def codes1 : List Jvm.Cond := [Jvm.Cond.code x code maxLocals ret, Jvm.Cond.code ({ cls := "com/example/allocus/allocus/method/Population", name := "<init>", desc := "(II)V" } : Jvm.MethodName) prog_48_method_1_code (3 : Nat) (Option.none : Option Jvm.ClassFile.FieldType), Jvm.Cond.code ({ cls := "java/lang/Object", name := "<init>", desc := "()V" } : Jvm.MethodName) object_method_1_code (1 : Nat) (Option.none : Option Jvm.ClassFile.FieldType), Jvm.Cond.code ({ cls := "com/example/allocus/allocus/method/Population", name := "add", desc := "([ID)V" } : Jvm.MethodName) prog_48_method_5_code (5 : Nat) (Option.none : Option Jvm.ClassFile.FieldType), Jvm.Cond.code ({ cls := "com/example/allocus/allocus/method/Population", name := "put", desc := "(I[ID)V" } : Jvm.MethodName) prog_48_method_10_code (5 : Nat) (Option.none : Option Jvm.ClassFile.FieldType), Jvm.Cond.code ({ cls := "com/example/allocus/allocus/method/Population", name := "best", desc := "()[I" } : Jvm.MethodName) prog_48_method_8_code (1 : Nat) (Option.some (Jvm.ClassFile.FieldType.array Jvm.ClassFile.FieldType.int)), Jvm.Cond.code ({ cls := "com/example/allocus/allocus/method/Population", name := "offer", desc := "([ID)Z" } : Jvm.MethodName) prog_48_method_6_code (7 : Nat) (Option.some Jvm.ClassFile.FieldType.boolean), Jvm.Cond.code ({ cls := "com/example/allocus/allocus/method/Population", name := "isMember", desc := "([ID)Z" } : Jvm.MethodName) prog_48_method_11_code (5 : Nat) (Option.some Jvm.ClassFile.FieldType.boolean), Jvm.Cond.code ({ cls := "java/util/Arrays", name := "equals", desc := "([I[I)Z" } : Jvm.MethodName) jdk_65_method_83_code (3 : Nat) (Option.some Jvm.ClassFile.FieldType.boolean), Jvm.Cond.code ({ cls := "jdk/internal/util/ArraysSupport", name := "mismatch", desc := "([I[II)I" } : Jvm.MethodName) jdk_48_method_19_code (4 : Nat) (Option.some Jvm.ClassFile.FieldType.int)]
set_option maxRecDepth 65536 in
theorem codes_eq : words1.filter isCode = codes1 := rfl
theorem w_codes : ∀ c ∈ words1.filter isCode, c.before args0 about1 = true := by
  rw [codes_eq]
  intro c hc
  simp only [codes1, List.mem_cons, List.not_mem_nil, or_false] at hc
  rcases hc with rfl | rfl | rfl | rfl | rfl | rfl | rfl | rfl | rfl | rfl
  · exact w_c0
  · exact w_c1
  · exact w_c2
  · exact w_c3
  · exact w_c4
  · exact w_c5
  · exact w_c6
  · exact w_c7
  · exact w_c8
  · exact w_c9
set_option maxRecDepth 65536 in
theorem w_t1 : (words1.take 24).all (fun c => isCode c || c.before args0 about1) = true := by decide +kernel
set_option maxRecDepth 65536 in
theorem w_t2 : ((words1.drop 24).take 24).all (fun c => isCode c || c.before args0 about1) = true := by decide +kernel
set_option maxRecDepth 65536 in
theorem w_t3 : (((words1.drop 24).drop 24).take 24).all (fun c => isCode c || c.before args0 about1) = true := by decide +kernel
set_option maxRecDepth 65536 in
theorem w_t4 : (((words1.drop 24).drop 24).drop 24).all (fun c => isCode c || c.before args0 about1) = true := by decide +kernel
theorem w_tables : (allAtoms (Jvm.Cond.code x code maxLocals ret :: tables_1)).before args0 about1 = true := by
  rw [allAtoms_all]
  show words1.all (fun c => c.before args0 about1) = true
  refine all_split ?_ w_codes
  rw [← List.take_append_drop 24 words1, List.all_append, w_t1, ← List.take_append_drop 24 (words1.drop 24), List.all_append, w_t2, ← List.take_append_drop 24 ((words1.drop 24).drop 24), List.all_append, w_t3, w_t4]
  rfl
set_option maxRecDepth 65536 in
theorem w_case : (Jvm.Cond.and given_1 narrow_1).before args0 about1 = true := by decide +kernel
theorem w_applies : (headSpec (Jvm.Cond.code x code maxLocals ret :: tables_1) room_1).applies x e0.platform about1 = true :=
  (Spec.applies_iff w_frames).mpr ⟨w_running, w_runnable, w_alone, w_named, w_hears, w_ripe, w_room, w_tables⟩
theorem atStart : AtStart classFile x code maxLocals ret World_1 tables_1 room_1 Calls_1 rest_1 Pre_1 launch0 p0 e0 about1 theMethod args0 below0 :=
  ⟨lists_1, trivial, launch0.admits_env _ _ _, launch0.least_env, fairChoices_fair.cas, fairChoices_fair.clock, w_frames, w_args, w_heap, w_applies, trivial, trivial, w_case⟩
end start1
theorem witness_1 : WitnessClaimed_1 := ⟨start1.p0, start1.e0, start1.about1, start1.theMethod, start1.args0, start1.below0, start1.atStart⟩
end Jvm.Pilot.@@N@@
